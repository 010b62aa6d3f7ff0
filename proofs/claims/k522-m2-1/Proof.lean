import JvmDerived
import JvmDerived.Pilot.@@N@@Statement
import JvmDerived.Pilot.@@N@@Code
set_option linter.unusedVariables false
set_option linter.unusedSimpArgs false
namespace Jvm.Pilot.@@N@@.Dyad
open Jvm Jvm.FP Jvm.FP.Core
/-- the exponent moved up by k -/
def sh (k : Int) : Datum → Datum
  | .nan => .nan
  | .inf s => .inf s
  | .fin s c q => .fin s c (q + k)
theorem sh_prod (k l : Int) (x y : Datum) : exactProduct (sh k x) (sh l y) = sh (k + l) (exactProduct x y) := by
  cases x <;> cases y <;> simp only [sh, exactProduct]
  · split <;> rfl
  · split <;> rfl
  · rw [show ∀ q r : Int, q + k + (r + l) = q + r + (k + l) from fun q r => by omega]
theorem inUnits_sh (c : Nat) (q e k : Int) : inUnits c (q + k) (e + k) = inUnits c q e := by
  unfold inUnits; rw [show q + k - (e + k) = q - e by omega]
theorem min_sh (q r k : Int) : min (q + k) (r + k) = min q r + k := by omega
theorem sumUnits_sh (s : Bool) (c : Nat) (q : Int) (t : Bool) (d : Nat) (r e k : Int) : sumUnits s c (q + k) t d (r + k) (e + k) = sumUnits s c q t d r e := by
  unfold sumUnits; rw [inUnits_sh, inUnits_sh]
theorem sh_sum (k : Int) (x y : Datum) : exactSum (sh k x) (sh k y) = sh k (exactSum x y) := by
  cases x <;> cases y <;> simp only [sh, exactSum]
  · split <;> rfl
  · rw [min_sh, sumUnits_sh]
theorem sh_neg (k : Int) (x : Datum) : negate (sh k x) = sh k (negate x) := by
  cases x <;> rfl
theorem order_sh (k : Int) (x y : Datum) : order (sh k x) (sh k y) = order x y := by
  cases x <;> cases y <;> simp only [sh, order]
  rw [min_sh, inUnits_sh, inUnits_sh]
theorem sh_zero (x : Datum) : sh 0 x = x := by
  cases x <;> simp [sh]
/-- x is the number n / 2^k -/
def Dy (n k : Int) (x : UInt64) : Prop := Whole n (sh k (val64 x))
theorem Dy.fin {n k : Int} {x : UInt64} (h : Dy n k x) : ∃ s c q, val64 x = .fin s c q ∧ Whole n (.fin s c (q + k)) := by
  unfold Dy at h
  cases hx : val64 x with
  | nan => rw [hx] at h; exact h.elim
  | inf s => rw [hx] at h; exact h.elim
  | fin s c q => rw [hx] at h; exact ⟨s, c, q, rfl, h⟩
theorem Dy.ne_nan {n k : Int} {x : UInt64} (h : Dy n k x) : val64 x ≠ .nan := by
  obtain ⟨s, c, q, e, -⟩ := h.fin; rw [e]; exact Datum.noConfusion
theorem Dy.no {n k : Int} {x : UInt64} (h : Dy n k x) : Jvm.Free.Fl.NoNaN64 x := Jvm.Free.Fl.val64_no.mpr h.ne_nan
theorem whole_scale {n : Int} {s : Bool} {c : Nat} {a : Int} (j : Nat) : Whole n (.fin s c a) ↔ Whole (n * ((2 ^ j : Nat) : Int)) (.fin s c (a + j)) := by
  show signed s (c * 2 ^ a.toNat) = n * ((2 ^ (-a).toNat : Nat) : Int) ↔ signed s (c * 2 ^ (a + j).toNat) = n * ((2 ^ j : Nat) : Int) * ((2 ^ (-(a + j)).toNat : Nat) : Int)
  have e : (a + j).toNat + (-a).toNat = a.toNat + (j + (-(a + j)).toNat) := by omega
  have p : ((2 ^ (-a).toNat : Nat) : Int) ≠ 0 := by have := Nat.two_pow_pos (-a).toNat; omega
  have p2 : ((2 ^ j : Nat) : Int) ≠ 0 := by have := Nat.two_pow_pos j; omega
  have p3 : ((2 ^ (-(a + j)).toNat : Nat) : Int) ≠ 0 := by have := Nat.two_pow_pos (-(a + j)).toNat; omega
  rw [signed_mul, signed_mul]
  have e2 : ((2 ^ (a + j).toNat : Nat) : Int) * ((2 ^ (-a).toNat : Nat) : Int) = ((2 ^ a.toNat : Nat) : Int) * (((2 ^ j : Nat) : Int) * ((2 ^ (-(a + j)).toNat : Nat) : Int)) := by
    rw [← Int.natCast_mul, ← Int.natCast_mul, ← Int.natCast_mul, ← Nat.pow_add, ← Nat.pow_add, ← Nat.pow_add, e]
  generalize signed s c = v
  generalize ((2 ^ (a + j).toNat : Nat) : Int) = P at e2 ⊢
  generalize ((2 ^ (-a).toNat : Nat) : Int) = M at p e2 ⊢
  generalize ((2 ^ a.toNat : Nat) : Int) = A at e2 ⊢
  generalize ((2 ^ j : Nat) : Int) = J at p2 e2 ⊢
  generalize ((2 ^ (-(a + j)).toNat : Nat) : Int) = N at p3 e2 ⊢
  have q1 : v * P * M = v * A * (J * N) := by
    calc v * P * M = v * (P * M) := Int.mul_assoc _ _ _
      _ = v * (A * (J * N)) := by rw [e2]
      _ = v * A * (J * N) := (Int.mul_assoc _ _ _).symm
  have q2 : n * J * N * M = n * M * (J * N) := by simp only [Int.mul_assoc, Int.mul_comm, Int.mul_left_comm]
  constructor
  · intro h
    apply Int.eq_of_mul_eq_mul_right p
    rw [q1, h, q2]
  · intro h
    apply Int.eq_of_mul_eq_mul_right (Int.mul_ne_zero p2 p3)
    rw [← q1, h, q2]
theorem Dy.scale {n k : Int} {x : UInt64} (j : Nat) : Dy n k x ↔ Dy (n * ((2 ^ j : Nat) : Int)) (k + j) x := by
  unfold Dy
  cases val64 x with
  | nan => exact Iff.rfl
  | inf s => exact Iff.rfl
  | fin s c q =>
    show Whole _ (.fin s c (q + k)) ↔ Whole _ (.fin s c (q + (k + j)))
    rw [show q + (k + (j : Int)) = q + k + j by omega]
    exact whole_scale j
theorem Dy.cast {n m k : Int} {x : UInt64} (h : Dy n k x) (e : n = m) : Dy m k x := e ▸ h
theorem Dy.up {n m k l : Int} {x : UInt64} (h : Dy n k x) (j : Nat) (hl : k + j = l) (e : n * ((2 ^ j : Nat) : Int) = m) : Dy m l x := by subst hl e; exact (Dy.scale j).mp h
theorem Dy.down {n m k l : Int} {x : UInt64} (h : Dy n k x) (j : Nat) (hl : l + j = k) (e : m * ((2 ^ j : Nat) : Int) = n) : Dy m l x := by subst hl e; exact (Dy.scale j).mpr h
theorem Dy.i2d (a : Int32) : Dy a.toInt 0 (FP.i2d a) := by
  unfold Dy; rw [sh_zero]; exact i2d_int a
theorem Dy.l2d {a : Int64} (h : a.toInt.natAbs ≤ 2 ^ 53) : Dy a.toInt 0 (FP.l2d a) := by
  unfold Dy; rw [sh_zero]; exact l2d_int h
theorem Dy.lit {n : Int64} {x : UInt64} {m : Int} (h : x = FP.l2d n) (e : n.toInt = m) (b : m.natAbs ≤ 2 ^ 53) : Dy m 0 x := by
  subst h e; exact Dy.l2d b
theorem Dy.cmp {n m k : Int} {x y : UInt64} (hx : Dy n k x) (hy : Dy m k y) : FP.dcmp x y = some (compare n m) := by
  show order (val64 x) (val64 y) = _
  rw [← order_sh k]; exact order_whole hx hy
theorem compare_lt {n m : Int} (h : n < m) : compare n m = .lt := (compare_lt_iff n m).mpr h
theorem compare_eq {n m : Int} (h : n = m) : compare n m = .eq := (compare_eq_iff n m).mpr h
theorem compare_gt {n m : Int} (h : m < n) : compare n m = .gt := by
  rw [compare_swap_int, compare_lt h]; rfl
theorem Dy.lt {n m k : Int} {x y : UInt64} (hx : Dy n k x) (hy : Dy m k y) (h : n < m) (o : Jvm.ClassFile.CmpOp) : Op.cmpValue (FP.dcmp x y) o = -1 := by rw [hx.cmp hy, compare_lt h]; rfl
theorem Dy.eq {n m k : Int} {x y : UInt64} (hx : Dy n k x) (hy : Dy m k y) (h : n = m) (o : Jvm.ClassFile.CmpOp) : Op.cmpValue (FP.dcmp x y) o = 0 := by rw [hx.cmp hy, compare_eq h]; rfl
theorem Dy.gt {n m k : Int} {x y : UInt64} (hx : Dy n k x) (hy : Dy m k y) (h : m < n) (o : Jvm.ClassFile.CmpOp) : Op.cmpValue (FP.dcmp x y) o = 1 := by rw [hx.cmp hy, compare_gt h]; rfl
theorem signed_natAbs {n : Int} {s : Bool} (h : n ≠ 0 → s = decide (n < 0)) : signed s n.natAbs = n := by
  by_cases h0 : n = 0
  · subst h0; exact signed_zero s
  · rw [h h0]; unfold signed
    by_cases q : n < 0
    · simp [q]; omega
    · simp [q]; omega
/-- a number of 53 digits is held exactly -/
theorem round_dy {n k : Int} {d : Datum} (h : Whole n (sh k d)) (hn : n.natAbs < 2 ^ 53) (hk : -900 ≤ k ∧ k ≤ 1000) : Whole n (sh k (round b64 d)) := by
  cases d with
  | nan => exact h.elim
  | inf s => exact h.elim
  | fin s c q =>
    have h1 : Whole n (.fin s c (q + k)) := h
    have e : round b64 (.fin s c q) = round b64 (.fin s n.natAbs (-k)) := by
      show roundRatio b64 s c 1 q = roundRatio b64 s n.natAbs 1 (-k)
      refine roundRatio_congr (by decide) (by decide) ?_
      have := whole_natAbs h1
      rw [Nat.mul_one, Nat.mul_one, show q - -k = q + k by omega, show -k - q = -(q + k) by omega]
      exact this
    have hq : b64.qmin = -1074 := qmin_b64
    have hp : b64.p = 53 := rfl
    obtain ⟨c', q', e1, e2⟩ := round_exact good_b64 s (c := n.natAbs) (q := -k) (by rw [hp]; exact hn) (by rw [hq]; omega) (by rw [show b64.qmax = 971 by decide]; omega)
    rw [e, e1]
    have hf := round_fits good_b64 (.fin s n.natAbs (-k))
    rw [e1] at hf
    have hq' : -1074 ≤ q' := hq ▸ hf.2.1
    unfold inUnits at e2
    rw [hq] at e2
    show signed s (c' * 2 ^ (q' + k).toNat) = n * ((2 ^ (-(q' + k)).toNat : Nat) : Int)
    have key : c' * 2 ^ (q' + k).toNat = n.natAbs * 2 ^ (-(q' + k)).toNat := by
      have e3 : (q' + k).toNat + (-k - -1074).toNat = (q' - -1074).toNat + (-(q' + k)).toNat := by omega
      apply Nat.eq_of_mul_eq_mul_right (Nat.two_pow_pos (-k - -1074).toNat)
      rw [Nat.mul_assoc, ← Nat.pow_add, e3, Nat.pow_add, ← Nat.mul_assoc, e2]
      simp only [Nat.mul_assoc, Nat.mul_comm, Nat.mul_left_comm]
    rw [key, signed_mul, signed_natAbs (fun h0 => whole_sign h1 h0)]
theorem Dy.mul {n m k l : Int} {x y : UInt64} (hx : Dy n k x) (hy : Dy m l y) (hb : (n * m).natAbs < 2 ^ 53) (hk : -900 ≤ k + l ∧ k + l ≤ 1000) : Dy (n * m) (k + l) (FP.dmul x y) := by
  unfold Dy
  rw [show val64 (FP.dmul x y) = _ from val64_dmul x y]
  refine round_dy ?_ hb hk
  rw [← sh_prod]
  exact whole_product hx hy
theorem Dy.add {n m k : Int} {x y : UInt64} (hx : Dy n k x) (hy : Dy m k y) (hb : (n + m).natAbs < 2 ^ 53) (hk : -900 ≤ k ∧ k ≤ 1000) : Dy (n + m) k (FP.dadd x y) := by
  unfold Dy
  rw [show val64 (FP.dadd x y) = _ from val64_dadd x y]
  refine round_dy ?_ hb hk
  rw [← sh_sum]
  exact whole_sum hx hy
theorem Dy.sub {n m k : Int} {x y : UInt64} (hx : Dy n k x) (hy : Dy m k y) (hb : (n - m).natAbs < 2 ^ 53) (hk : -900 ≤ k ∧ k ≤ 1000) : Dy (n - m) k (FP.dsub x y) := by
  unfold Dy
  rw [show val64 (FP.dsub x y) = _ from val64_dsub x y]
  refine round_dy ?_ hb hk
  rw [← sh_sum, ← sh_neg, Int.sub_eq_add_neg]
  exact whole_sum hx (whole_negate hy)
/-- the quotient's rounding, by the values alone -/
theorem Dy.quot {n m k l : Int} {x y : UInt64} (hx : Dy n k x) (hy : Dy m l y) (hm : m ≠ 0) : ∃ s, val64 (FP.ddiv x y) = roundRatio b64 s n.natAbs m.natAbs (l - k) ∧ (n ≠ 0 → s = (decide (n < 0) != decide (m < 0))) := by
  obtain ⟨s, c, q, ex, wx⟩ := hx.fin
  obtain ⟨t, d, r, ey, wy⟩ := hy.fin
  have hd : d ≠ 0 := fun z => hm ((whole_zero wy).mp z)
  refine ⟨s != t, ?_, fun h0 => by rw [whole_sign wx h0, whole_sign wy hm]⟩
  rw [show val64 (FP.ddiv x y) = _ from val64_ddiv x y, ex, ey]
  simp only [quotient, if_neg hd]
  refine roundRatio_congr (Nat.pos_of_ne_zero hd) (by omega) ?_
  have e1 := whole_natAbs wx
  have e2 := whole_natAbs wy
  have e3 : (q - r - (l - k)).toNat + ((-(q + k)).toNat + (r + l).toNat) = (l - k - (q - r)).toNat + ((q + k).toNat + (-(r + l)).toNat) := by omega
  apply Nat.eq_of_mul_eq_mul_right (Nat.two_pow_pos ((-(q + k)).toNat + (r + l).toNat))
  rw [Nat.mul_assoc, ← Nat.pow_add, e3, Nat.pow_add, Nat.pow_add, Nat.pow_add]
  generalize 2 ^ (l - k - (q - r)).toNat = P
  generalize 2 ^ (q + k).toNat = A at *
  generalize 2 ^ (-(q + k)).toNat = A' at *
  generalize 2 ^ (r + l).toNat = B at *
  generalize 2 ^ (-(r + l)).toNat = B' at *
  calc c * m.natAbs * (P * (A * B')) = (c * A) * (m.natAbs * B') * P := by simp only [Nat.mul_assoc, Nat.mul_comm, Nat.mul_left_comm]
    _ = (n.natAbs * A') * (d * B) * P := by rw [e1, e2]
    _ = n.natAbs * d * P * (A' * B) := by simp only [Nat.mul_assoc, Nat.mul_comm, Nat.mul_left_comm]
theorem sgn_of_quot {n m j : Int} {a b c : Nat} (ha : 0 < a) (hb : 0 < b) (hm : m ≠ 0) (h : n * (a : Int) = j * m * (b : Int)) (hj : j ≠ 0) : (n ≠ 0) ∧ decide (j < 0) = (decide (n < 0) != decide (m < 0)) := by
  have hn : n ≠ 0 := by
    intro z; rw [z, Int.zero_mul] at h
    have := Int.mul_eq_zero.mp h.symm
    rcases this with q | q
    · rcases Int.mul_eq_zero.mp q with q | q
      · exact hj q
      · exact hm q
    · omega
  refine ⟨hn, ?_⟩
  have ha' : (0 : Int) < a := by omega
  have hb' : (0 : Int) < b := by omega
  rcases Int.lt_or_gt_of_ne hj with q | q <;> rcases Int.lt_or_gt_of_ne hm with r | r <;> rcases Int.lt_or_gt_of_ne hn with t | t
  all_goals first
    | (simp [q, r, t]; done)
    | (simp [q, r, t, Int.not_lt.mpr (Int.le_of_lt q), Int.not_lt.mpr (Int.le_of_lt r), Int.not_lt.mpr (Int.le_of_lt t)]; done)
    | (simp [q, r, t, Int.not_lt.mpr (Int.le_of_lt q), Int.not_lt.mpr (Int.le_of_lt r)]; done)
    | (simp [q, r, t, Int.not_lt.mpr (Int.le_of_lt q), Int.not_lt.mpr (Int.le_of_lt t)]; done)
    | (simp [q, r, t, Int.not_lt.mpr (Int.le_of_lt r), Int.not_lt.mpr (Int.le_of_lt t)]; done)
    | (simp [q, r, t, Int.not_lt.mpr (Int.le_of_lt q)]; done)
    | (simp [q, r, t, Int.not_lt.mpr (Int.le_of_lt r)]; done)
    | (simp [q, r, t, Int.not_lt.mpr (Int.le_of_lt t)]; done)
    | (exfalso
       have s1 : n * (a : Int) < 0 ∨ 0 < n * (a : Int) := by
         rcases Int.lt_or_gt_of_ne hn with t | t
         · exact Or.inl (Int.mul_neg_of_neg_of_pos t ha')
         · exact Or.inr (Int.mul_pos t ha')
       first
       | (have u := Int.mul_neg_of_neg_of_pos (Int.mul_neg_of_neg_of_pos q r) hb'; have v := Int.mul_pos t ha'; omega)
       | (have u := Int.mul_neg_of_neg_of_pos (Int.mul_neg_of_pos_of_neg q r) hb'; have v := Int.mul_pos t ha'; omega)
       | (have u := Int.mul_pos (Int.mul_pos q r) hb'; have v := Int.mul_neg_of_neg_of_pos t ha'; omega)
       | (have u := Int.mul_pos (Int.mul_pos_of_neg_of_neg q r) hb'; have v := Int.mul_neg_of_neg_of_pos t ha'; omega))
/-- an exact quotient: x / y = j / 2^i -/
theorem Dy.div {n m j k l i : Int} {x y : UInt64} (u v : Nat) (hx : Dy n k x) (hy : Dy m l y) (hm : m ≠ 0) (huv : (u : Int) - v = l + i - k) (hv : n * ((2 ^ u : Nat) : Int) = j * m * ((2 ^ v : Nat) : Int)) (hj : j.natAbs < 2 ^ 53) (hi : -900 ≤ i ∧ i ≤ 1000) : Dy j i (FP.ddiv x y) := by
  obtain ⟨s, e, hs⟩ := hx.quot hy hm
  unfold Dy
  rw [e]
  have hva : n.natAbs * 2 ^ u = j.natAbs * m.natAbs * 2 ^ v := by
    have := congrArg Int.natAbs hv
    rw [Int.natAbs_mul, Int.natAbs_mul, Int.natAbs_mul, Int.natAbs_natCast, Int.natAbs_natCast] at this
    exact this
  have e2 : roundRatio b64 s n.natAbs m.natAbs (l - k) = round b64 (.fin s j.natAbs (-i)) := by
    show _ = roundRatio b64 s j.natAbs 1 (-i)
    refine roundRatio_congr (by omega) (by decide) ?_
    rw [Nat.mul_one]
    have e3 : (l - k - -i).toNat + v = (-i - (l - k)).toNat + u := by omega
    apply Nat.eq_of_mul_eq_mul_right (Nat.two_pow_pos v)
    rw [Nat.mul_assoc, ← Nat.pow_add, e3, Nat.pow_add]
    generalize 2 ^ (-i - (l - k)).toNat = W
    calc n.natAbs * (W * 2 ^ u) = (n.natAbs * 2 ^ u) * W := by simp only [Nat.mul_assoc, Nat.mul_comm, Nat.mul_left_comm]
      _ = j.natAbs * m.natAbs * 2 ^ v * W := by rw [hva]
      _ = j.natAbs * m.natAbs * W * 2 ^ v := by simp only [Nat.mul_assoc, Nat.mul_comm, Nat.mul_left_comm]
  rw [e2]
  refine round_dy ?_ hj hi
  show signed s (j.natAbs * 2 ^ (-i + i).toNat) = j * ((2 ^ (-(-i + i)).toNat : Nat) : Int)
  rw [show (-i + i) = 0 by omega]
  simp only [Int.toNat_zero, Nat.pow_zero, Nat.mul_one, Int.neg_zero, Int.natCast_one, Int.mul_one]
  refine signed_natAbs fun h0 => ?_
  obtain ⟨hn, hsg⟩ := sgn_of_quot (c := 0) (Nat.two_pow_pos u) (Nat.two_pow_pos v) hm hv h0
  rw [hs hn, hsg]
end Jvm.Pilot.@@N@@.Dyad
namespace Jvm.Pilot.@@N@@
open Jvm Jvm.ClassFile Sem Op Lib Jvm.Free Jvm.Stand Jvm.LawKit Jvm.RoadKit Bundle Jvm.Pilot.@@N@@.Jvm.D
def own_K (p : Program) (e : Env) (below : List Frame) (A B : State) : Prop := ∀ t, Steps p.tables e below A t → Steps p.tables e below B t
theorem own_ifT_eq {x : Int32} (h : x = 0) : ifCond.holds .eq x = true := by simp [ifCond.holds, h]
theorem own_ifF_eq {x : Int32} (h : ¬ x = 0) : ifCond.holds .eq x = false := by simp [ifCond.holds, h]
theorem own_ifT_ne {x : Int32} (h : ¬ x = 0) : ifCond.holds .ne x = true := by simp [ifCond.holds, h]
theorem own_ifF_ne {x : Int32} (h : x = 0) : ifCond.holds .ne x = false := by simp [ifCond.holds, h]
theorem own_ifT_lt {x : Int32} (h : x < 0) : ifCond.holds .lt x = true := by simp [ifCond.holds, h]
theorem own_ifF_lt {x : Int32} (h : ¬ x < 0) : ifCond.holds .lt x = false := by simp [ifCond.holds, h]
theorem own_ifT_ge {x : Int32} (h : ¬ x < 0) : ifCond.holds .ge x = true := by simp [ifCond.holds, Int32.not_lt.mp h]
theorem own_ifF_ge {x : Int32} (h : x < 0) : ifCond.holds .ge x = false := by simp [ifCond.holds, Int32.not_le.mpr h]
theorem own_ifT_gt {x : Int32} (h : 0 < x) : ifCond.holds .gt x = true := by simp [ifCond.holds, h]
theorem own_ifF_gt {x : Int32} (h : ¬ 0 < x) : ifCond.holds .gt x = false := by simp [ifCond.holds, h]
theorem own_ifT_le {x : Int32} (h : ¬ 0 < x) : ifCond.holds .le x = true := by simp [ifCond.holds, Int32.not_lt.mp h]
theorem own_ifF_le {x : Int32} (h : 0 < x) : ifCond.holds .le x = false := by simp [ifCond.holds, Int32.not_le.mpr h]
theorem own_icT_eq {x y : Int32} (h : x = y) : if_icmp.holds .eq x y = true := by simp [if_icmp.holds, h]
theorem own_icF_eq {x y : Int32} (h : ¬ x = y) : if_icmp.holds .eq x y = false := by simp [if_icmp.holds, h]
theorem own_icT_ne {x y : Int32} (h : ¬ x = y) : if_icmp.holds .ne x y = true := by simp [if_icmp.holds, h]
theorem own_icF_ne {x y : Int32} (h : x = y) : if_icmp.holds .ne x y = false := by simp [if_icmp.holds, h]
theorem own_icT_lt {x y : Int32} (h : x < y) : if_icmp.holds .lt x y = true := by simp [if_icmp.holds, h]
theorem own_icF_lt {x y : Int32} (h : ¬ x < y) : if_icmp.holds .lt x y = false := by simp [if_icmp.holds, h]
theorem own_icT_ge {x y : Int32} (h : ¬ x < y) : if_icmp.holds .ge x y = true := by simp [if_icmp.holds, Int32.not_lt.mp h]
theorem own_icF_ge {x y : Int32} (h : x < y) : if_icmp.holds .ge x y = false := by simp [if_icmp.holds, Int32.not_le.mpr h]
theorem own_icT_gt {x y : Int32} (h : y < x) : if_icmp.holds .gt x y = true := by simp [if_icmp.holds, h]
theorem own_icF_gt {x y : Int32} (h : ¬ y < x) : if_icmp.holds .gt x y = false := by simp [if_icmp.holds, h]
theorem own_icT_le {x y : Int32} (h : ¬ y < x) : if_icmp.holds .le x y = true := by simp [if_icmp.holds, Int32.not_lt.mp h]
theorem own_icF_le {x y : Int32} (h : y < x) : if_icmp.holds .le x y = false := by simp [if_icmp.holds, Int32.not_le.mpr h]
theorem own_from {p : Program} {e : Env} {below : List Frame} {A B t : State} (h : B = A) (q : Steps p.tables e below B t) : Steps p.tables e below A t := h ▸ q
abbrev rO (f c s l : Nat) : Room := { frames := f, cells := c, slots := s, locals := l }
abbrev own_Met (l : Launch) (y : MethodName) (code : ByteArray) (ml : Nat) (ret : Option FieldType) (ws : List Jvm.Cond) (rm : Room) (as' : Array Value) (Z : State) (h0 : Heap) (Q : Option Value → Heap → List Loc → Prop) : Prop :=
  MetFree l y (head1 (Jvm.Cond.code y code ml ret :: ws) rm) (fun ar_ U => ar_ = as' ∧ Z.Warmed39 U.vm ∧ U.heap = h0) (fun _ _ _ _ _ => True) (fun _ U o U' => ∃ v L, o = .returned v ∧ Q v U'.heap L ∧ FrameEnd U o U' L rm.cells rm.slots)
theorem own_InsKeep {Z : State} {h h' : Heap} {b : Addr} {C : String} {bo : Bool} {ws : List Addr} (F : Ins Z h b C bo) (K : Keep h h' ws) (q : b ∉ ws) : Ins Z h' b C bo := by obtain ⟨cell, k, h1, r⟩ := F; exact ⟨cell, k, K.2.1 _ _ h1 q, r⟩
theorem wT {Z : State} {a0 : Array Value} (hw : ∀ d ∈ tables_1, d.before a0 Z = true) (i : Nat) {d : Jvm.Cond} (h : tables_1[i]? = some d) : d.before a0 Z = true := hw d (List.mem_of_getElem? h)
theorem own_mvNest {Z s : State} {a0 args : Array Value} {own host : String} {index : Nat} {y : MethodName} (hZ : Z.Warmed39 s.vm) (w : (Cond.methodLinkNest own index y host).before a0 Z = true) : (Cond.methodLinkNest own index y host).before args s = true := (Cond.methodLinkNest_wide hZ w :)
theorem own_pop2 {tb : Tables} [Ours tb] {e : Env} {below : List Frame} {T target : State} {m : MethodId} {c : Code} {g : JFrame} (h : At T m c below) (hx : tb.exec = Jvm.exec) (hg : g.method = m) {x : UInt64} {rest : List Value} (hd : decode c.code g.pc = .ok (.pop2, 1)) (hs : g.stack = .double x :: rest)
    (hr : Steps tb e below (T.setTop { g with pc := g.pc + 1, stack := rest }) target) : Steps tb e below (T.setTop g) target := by
  subst hg
  jvm_step h [h.top, hx, hd, hs, Value.category]
  exact hr
open Jvm.Pilot.@@N@@.Dyad
def own_co2 (d : UInt64) : Int32 := if 0 < cmpValue (FP.dcmp d FP.dconst0) .l then (if cmpValue (FP.dcmp d (4636737291354636288 : UInt64)) .g < 0 then 1 else 0) else 0
theorem own_shl (x : Int64) (q : Int32) (k : Nat) (hk : q.toBitVec.toNat % 64 = k) : ((x <<< (q &&& 0x3f).toInt64).toInt - x.toInt * (2 ^ k : Nat)) % 18446744073709551616 = 0 := c_lshl x q k hk
theorem own_m31 (k : Int32) : (k &&& 31).toBitVec.toNat % 64 = k.toBitVec.toNat % 32 := by
  show (k.toBitVec &&& (31 : Int32).toBitVec).toNat % 64 = _
  rw [BitVec.toNat_and, show (31 : Int32).toBitVec.toNat = 2 ^ 5 - 1 from by decide, Nat.and_two_pow_sub_one_eq_mod]
  omega
theorem own_sh (k : Int32) : ∃ S : Nat, S < 32 ∧ ((1 : Int64) <<< ((k &&& (31 : Int32)) &&& 0x3f).toInt64).toInt = ((2 ^ S : Nat) : Int) ∧ (∀ a : Int32, (a.toInt64 <<< ((k &&& (31 : Int32)) &&& 0x3f).toInt64).toInt = a.toInt * ((2 ^ S : Nat) : Int)) ∧ 2 ^ S ≤ 2147483648 := by
  refine ⟨k.toBitVec.toNat % 32, Nat.mod_lt _ (by decide), ?_, ?_, ?_⟩
  · have h := own_shl 1 (k &&& 31) _ (own_m31 k)
    have r := rng64 ((1 : Int64) <<< ((k &&& (31 : Int32)) &&& 0x3f).toInt64)
    have b : 2 ^ (k.toBitVec.toNat % 32) ≤ 2 ^ 31 := Nat.pow_le_pow_right (by decide) (by omega)
    rw [show (1 : Int64).toInt = 1 from rfl] at h
    generalize 2 ^ (k.toBitVec.toNat % 32) = P at *
    omega
  · intro a
    have h := own_shl a.toInt64 (k &&& 31) _ (own_m31 k)
    have r := rng64 (a.toInt64 <<< ((k &&& (31 : Int32)) &&& 0x3f).toInt64)
    have b : 2 ^ (k.toBitVec.toNat % 32) ≤ 2 ^ 31 := Nat.pow_le_pow_right (by decide) (by omega)
    have ra := rng32 a
    rw [c_i2l] at h
    generalize 2 ^ (k.toBitVec.toNat % 32) = P at *
    have m : (a.toInt * (P : Int)).natAbs ≤ 2147483648 * 2147483648 := by
      rw [Int.natAbs_mul, Int.natAbs_natCast]; exact Nat.mul_le_mul (by omega) b
    generalize a.toInt * (P : Int) = Y at *
    omega
  · exact Nat.le_trans (Nat.pow_le_pow_right (by decide) (by omega : k.toBitVec.toNat % 32 ≤ 31)) (by decide)
theorem own_hund : Dy 100 0 (4636737291354636288 : UInt64) := Dy.lit (n := 100) (by decide +kernel) rfl (by decide)
theorem own_zero : Dy 0 0 FP.dconst0 := Dy.lit (n := 0) (by decide +kernel) rfl (by decide)
/-- the two values, as numbers -/
theorem own_mul_dy (a k : Int32) {S : Nat} (hS : S < 32) (hp : ((1 : Int64) <<< ((k &&& (31 : Int32)) &&& 0x3f).toInt64).toInt = ((2 ^ S : Nat) : Int)) (hb : 2 ^ S ≤ 2147483648) : Dy a.toInt (-(S : Int)) (FP.dmul (FP.i2d a) (FP.l2d ((1 : Int64) <<< ((k &&& (31 : Int32)) &&& 0x3f).toInt64))) := by
  have h1 : Dy (((2 ^ S : Nat) : Int)) 0 (FP.l2d ((1 : Int64) <<< ((k &&& (31 : Int32)) &&& 0x3f).toInt64)) := (Dy.l2d (by rw [hp, Int.natAbs_natCast]; omega)).cast hp
  have h2 : Dy 1 (-(S : Int)) (FP.l2d ((1 : Int64) <<< ((k &&& (31 : Int32)) &&& 0x3f).toInt64)) := h1.down S (by omega) (by omega)
  have ra := rng32 a
  have := (Dy.i2d a).mul h2 (by omega) (by omega)
  rw [Int.mul_one, Int.zero_add] at this
  exact this
theorem own_div_dy (a k : Int32) {S : Nat} (hS : S < 32) (hp : ((1 : Int64) <<< ((k &&& (31 : Int32)) &&& 0x3f).toInt64).toInt = ((2 ^ S : Nat) : Int)) (hb : 2 ^ S ≤ 2147483648) : Dy a.toInt S (FP.ddiv (FP.i2d a) (FP.l2d ((1 : Int64) <<< ((k &&& (31 : Int32)) &&& 0x3f).toInt64))) := by
  have h1 : Dy (((2 ^ S : Nat) : Int)) 0 (FP.l2d ((1 : Int64) <<< ((k &&& (31 : Int32)) &&& 0x3f).toInt64)) := (Dy.l2d (by rw [hp, Int.natAbs_natCast]; omega)).cast hp
  have h2 : Dy 1 (-(S : Int)) (FP.l2d ((1 : Int64) <<< ((k &&& (31 : Int32)) &&& 0x3f).toInt64)) := h1.down S (by omega) (by omega)
  have ra := rng32 a
  exact (Dy.i2d a).div 0 0 h2 (by omega) (by omega) (by omega) (by omega) (by omega)
theorem own_mul_no (a k : Int32) : Jvm.Free.Fl.NoNaN64 (FP.dmul (FP.i2d a) (FP.l2d ((1 : Int64) <<< ((k &&& (31 : Int32)) &&& 0x3f).toInt64))) := by
  obtain ⟨S, hS, hp, -, hb⟩ := own_sh k; exact (own_mul_dy a k hS hp hb).no
theorem own_div_no (a k : Int32) : Jvm.Free.Fl.NoNaN64 (FP.ddiv (FP.i2d a) (FP.l2d ((1 : Int64) <<< ((k &&& (31 : Int32)) &&& 0x3f).toInt64))) := by
  obtain ⟨S, hS, hp, -, hb⟩ := own_sh k; exact (own_div_dy a k hS hp hb).no
theorem own_co2_of {d : UInt64} {n m k : Int} (hd : Dy n k d) (hh : Dy m k (4636737291354636288 : UInt64)) (hz : Dy 0 k FP.dconst0) : own_co2 d = if 0 < n ∧ n < m then 1 else 0 := by
  unfold own_co2
  by_cases h1 : 0 < n
  · rw [hd.gt hz h1]
    by_cases h2 : n < m
    · rw [hd.lt hh h2]; simp [h1, h2]
    · have : cmpValue (FP.dcmp d (4636737291354636288 : UInt64)) .g = 0 ∨ cmpValue (FP.dcmp d (4636737291354636288 : UInt64)) .g = 1 := by
        rcases Int.lt_or_eq_of_le (Int.not_lt.mp h2) with q | q
        · exact Or.inr (hd.gt hh q _)
        · exact Or.inl (hd.eq hh q.symm _)
      rcases this with q | q <;> rw [q] <;> simp [h2]
  · have : cmpValue (FP.dcmp d FP.dconst0) .l = 0 ∨ cmpValue (FP.dcmp d FP.dconst0) .l = -1 := by
      rcases Int.lt_or_eq_of_le (Int.not_lt.mp h1) with q | q
      · exact Or.inr (hd.lt hz q _)
      · exact Or.inl (hd.eq hz q _)
    rcases this with q | q <;> rw [q] <;> simp [h1]
theorem own_cmpL_lt (x y : Int64) : lcmpW x y < 0 ↔ x.toInt < y.toInt := by
  unfold lcmpW
  rw [← Int64.lt_iff_toInt_lt]
  by_cases h1 : y < x
  · have : ¬ x < y := by rw [Int64.lt_iff_toInt_lt] at *; omega
    simp [h1, this]
  · by_cases h2 : x = y
    · subst h2; simp [h1]
    · have : x < y := by rw [Int64.lt_iff_toInt_lt] at *; rw [← Int64.toInt_inj] at h2; omega
      simp [h1, h2, this]
theorem own_pos (a : Int32) : (0 < a) ↔ 0 < a.toInt := by rw [Int32.lt_iff_toInt_lt]; rfl
theorem own_up (a k : Int32) : own_co2 (FP.dmul (FP.i2d a) (FP.l2d ((1 : Int64) <<< ((k &&& (31 : Int32)) &&& 0x3f).toInt64))) = if 0 < a ∧ lcmpW (a.toInt64 <<< ((k &&& (31 : Int32)) &&& 0x3f).toInt64) (100 : Int64) < 0 then 1 else 0 := by
  obtain ⟨S, hS, hp, hq, hb⟩ := own_sh k
  have h1 : Dy (a.toInt * ((2 ^ S : Nat) : Int)) 0 (FP.dmul (FP.i2d a) (FP.l2d ((1 : Int64) <<< ((k &&& (31 : Int32)) &&& 0x3f).toInt64))) := (own_mul_dy a k hS hp hb).up S (by omega) rfl
  rw [own_co2_of h1 own_hund own_zero]
  simp only [own_cmpL_lt, hq, own_pos, show (100 : Int64).toInt = 100 from rfl]
  have hP : (0 : Int) < ((2 ^ S : Nat) : Int) := by have := Nat.two_pow_pos S; omega
  have : 0 < a.toInt * ((2 ^ S : Nat) : Int) ↔ 0 < a.toInt := ⟨fun q => Int.pos_of_mul_pos_right (by rw [Int.mul_comm]; exact q) hP, fun q => Int.mul_pos q hP⟩
  simp only [this]
theorem own_dn (a k : Int32) : own_co2 (FP.ddiv (FP.i2d a) (FP.l2d ((1 : Int64) <<< ((k &&& (31 : Int32)) &&& 0x3f).toInt64))) = if 0 < a ∧ lcmpW (a.toInt64) ((100 : Int64) * ((1 : Int64) <<< ((k &&& (31 : Int32)) &&& 0x3f).toInt64)) < 0 then 1 else 0 := by
  obtain ⟨S, hS, hp, hq, hb⟩ := own_sh k
  have h2 : Dy (100 * ((2 ^ S : Nat) : Int)) S (4636737291354636288 : UInt64) := own_hund.up S (by omega) rfl
  have h3 : Dy 0 S FP.dconst0 := own_zero.up S (by omega) (by omega)
  have h4 : ((100 : Int64) * ((1 : Int64) <<< ((k &&& (31 : Int32)) &&& 0x3f).toInt64)).toInt = 100 * ((2 ^ S : Nat) : Int) := by
    have := c_lmul (100 : Int64) ((1 : Int64) <<< ((k &&& (31 : Int32)) &&& 0x3f).toInt64)
    have r := rng64 ((100 : Int64) * ((1 : Int64) <<< ((k &&& (31 : Int32)) &&& 0x3f).toInt64))
    rw [hp, show (100 : Int64).toInt = 100 from rfl] at this
    have h0 := Nat.two_pow_pos S
    clear hp hq h2 h3
    generalize 2 ^ S = P at *
    omega
  rw [own_co2_of (own_div_dy a k hS hp hb) h2 h3]
  simp only [own_cmpL_lt, h4, c_i2l, own_pos]
theorem own_up1 (a k : Int32) (h1 : 0 < a) (h2 : lcmpW (a.toInt64 <<< ((k &&& (31 : Int32)) &&& 0x3f).toInt64) (100 : Int64) < 0) : own_co2 (FP.dmul (FP.i2d a) (FP.l2d ((1 : Int64) <<< ((k &&& (31 : Int32)) &&& 0x3f).toInt64))) = 1 := by rw [own_up]; exact if_pos ⟨h1, h2⟩
theorem own_up0 (a k : Int32) (h : 0 < a → ¬ lcmpW (a.toInt64 <<< ((k &&& (31 : Int32)) &&& 0x3f).toInt64) (100 : Int64) < 0) : own_co2 (FP.dmul (FP.i2d a) (FP.l2d ((1 : Int64) <<< ((k &&& (31 : Int32)) &&& 0x3f).toInt64))) = 0 := by rw [own_up]; exact if_neg fun q => h q.1 q.2
theorem own_dn1 (a k : Int32) (h1 : 0 < a) (h2 : lcmpW (a.toInt64) ((100 : Int64) * ((1 : Int64) <<< ((k &&& (31 : Int32)) &&& 0x3f).toInt64)) < 0) : own_co2 (FP.ddiv (FP.i2d a) (FP.l2d ((1 : Int64) <<< ((k &&& (31 : Int32)) &&& 0x3f).toInt64))) = 1 := by rw [own_dn]; exact if_pos ⟨h1, h2⟩
theorem own_dn0 (a k : Int32) (h : 0 < a → ¬ lcmpW (a.toInt64) ((100 : Int64) * ((1 : Int64) <<< ((k &&& (31 : Int32)) &&& 0x3f).toInt64)) < 0) : own_co2 (FP.ddiv (FP.i2d a) (FP.l2d ((1 : Int64) <<< ((k &&& (31 : Int32)) &&& 0x3f).toInt64))) = 0 := by rw [own_dn]; exact if_neg fun q => h q.1 q.2


def QA (d : UInt64) (h0 : Heap) (n0 : Nat) (v : Option Value) (h : Heap) (L : List Loc) : Prop := v = some (.int (own_co2 d)) ∧ Fr n0 L ∧ h = h0
theorem own_h1 : decode prog_34_method_14_code 0 = .ok (.dload_n 0, 1) := by decide +kernel
theorem own_h2 : decode prog_34_method_14_code 1 = .ok (.dconst 0, 1) := by decide +kernel
theorem own_h3 : decode prog_34_method_14_code 2 = .ok (.dcmp .l, 1) := by decide +kernel
theorem own_h4 : decode prog_34_method_14_code 3 = .ok (.ifCond .le 15, 3) := by decide +kernel
theorem own_h5 : decode prog_34_method_14_code 6 = .ok (.dload_n 0, 1) := by decide +kernel
theorem own_h6 : decode prog_34_method_14_code 7 = .ok (.ldc2_w 64, 3) := by decide +kernel
theorem own_h7 : decode prog_34_method_14_code 10 = .ok (.dcmp .g, 1) := by decide +kernel
theorem own_h8 : decode prog_34_method_14_code 11 = .ok (.ifCond .ge 7, 3) := by decide +kernel
theorem own_h9 : decode prog_34_method_14_code 14 = .ok (.iconst 1, 1) := by decide +kernel
theorem own_h10 : decode prog_34_method_14_code 15 = .ok (.goto 4, 3) := by decide +kernel
theorem own_h11 : decode prog_34_method_14_code 18 = .ok (.iconst 0, 1) := by decide +kernel
theorem own_h12 : decode prog_34_method_14_code 19 = .ok (.ireturn, 1) := by decide +kernel
theorem own_h13 : plainName "com/example/flueline/flueline/Method19" = true := by first | (simp [plainName, overriddenIn]; done) | decide +kernel
theorem own_h14 : parseMethodDescriptor "(D)Z" = some ⟨[.double], some .boolean⟩ := by decide +kernel
set_option maxRecDepth 65536 in
set_option maxHeartbeats 40000000 in
theorem rmA (l : Launch) (Z : State) (a0 : Array Value) (hw : ∀ d ∈ tables_1, d.before a0 Z = true) (ws : List Jvm.Cond) (d : UInt64) (h0 : Heap) (n0 : Nat) (Z0 : n0 ≤ h0.size) :
    MetFree l (⟨"com/example/flueline/flueline/Method19", "isPossibleCarbonDioxide", "(D)Z"⟩ : MethodName) (head1 (Jvm.Cond.code (⟨"com/example/flueline/flueline/Method19", "isPossibleCarbonDioxide", "(D)Z"⟩ : MethodName) prog_34_method_14_code 2 (some .boolean) :: ws) ({ frames := 0, cells := 0, slots := 0, locals := 0 } : Room)) (fun ar_ U => ar_ = #[(.double d)] ∧ Z.Warmed39 U.vm ∧ U.heap = h0) (fun _ _ _ _ _ => True) (fun _ U o U' => ∃ v L, o = .returned v ∧ QA d h0 n0 v U'.heap L ∧ FrameEnd U o U' L ({ frames := 0, cells := 0, slots := 0, locals := 0 } : Room).cells ({ frames := 0, cells := 0, slots := 0, locals := 0 } : Room).slots) := by
  refine MetFree.of_bodySF (plainFor_of_name own_h13) hisR ?_
  intro p e s m args below meth c s₁ Bd hml0 hP hK
  obtain ⟨rfl, hZ, hh⟩ := hP
  have hx := Bd.exec
  have hby := Bd.bytes
  have hml : c.maxLocals = 2 := hml0
  have hown : s.vm.findClass "com/example/flueline/flueline/Method19" = some m.cls := findClass_of_methodNamed Bd.named
  have hnm := (name_of_methodNamed Bd.named Bd.method).1
  have X0 : Stand p l e ({ frames := 0, cells := 0, slots := 0, locals := 0 } : Room) s m #[(.double d)] below meth c s₁ [] 0 0 := Stand.of_body Bd
  have e0 : s₁.heap = h0 := by rw [← hh, Bd.state]; rfl
  have N0 := Fr.nil n0
  have k0 : own_K p e below (s₁.setTop (mkF m 0 #[.val (.double d), .second] [])) (s₁.setTop (entryFrame m #[(.double d)] 2)) := fun t k => castTop (by clear k; first | (simp [entryFrame, mkF, argsToLocals, Value.category, maxLocals]; done) | rfl) k
  have k1 : own_K p e below (s₁.setTop (mkF m 3 #[.val (.double d), .second] [(.int (cmpValue (FP.dcmp d FP.dconst0) .l))])) (s₁.setTop (entryFrame m #[(.double d)] 2)) := fun t hh => k0 t (by
    refine XS.dloadN X0.here hx rfl (hb hby own_h1) rfl ?_
    show Steps p.tables e below (s₁.setTop (mkF m 1 #[.val (.double d), .second] [(.double d)])) _
    refine XS.dconst0 X0.here hx rfl (hb hby own_h2) rfl ?_
    show Steps p.tables e below (s₁.setTop (mkF m 2 #[.val (.double d), .second] [(.double FP.dconst0), (.double d)])) _
    refine XS.dcmpS X0.here hx rfl (hb hby own_h3) rfl rfl ?_
    show Steps p.tables e below (s₁.setTop (mkF m 3 #[.val (.double d), .second] [(.int (cmpValue (FP.dcmp d FP.dconst0) .l))])) _
    exact hh)
  by_cases c3 : 0 < (cmpValue (FP.dcmp d FP.dconst0) .l)
  ·
    have k2 : own_K p e below (s₁.setTop (mkF m 11 #[.val (.double d), .second] [(.int (cmpValue (FP.dcmp d (4636737291354636288 : UInt64)) .g))])) (s₁.setTop (entryFrame m #[(.double d)] 2)) := fun t hh => k1 t (by
      refine XS.ifNo X0.here hx rfl (hb hby own_h4) rfl (own_ifF_le c3) ?_
      show Steps p.tables e below (s₁.setTop (mkF m 6 #[.val (.double d), .second] [])) _
      refine XS.dloadN X0.here hx rfl (hb hby own_h5) rfl ?_
      show Steps p.tables e below (s₁.setTop (mkF m 7 #[.val (.double d), .second] [(.double d)])) _
      refine X0.ldc2DoubleC hx hown (mvT hZ (wT hw 5 rfl)) (g := (mkF m 7 #[.val (.double d), .second] [(.double d)])) rfl (hb hby own_h6) _ ?_
      show Steps p.tables e below (s₁.setTop (mkF m 10 #[.val (.double d), .second] [(.double (4636737291354636288 : UInt64)), (.double d)])) _
      refine XS.dcmpS X0.here hx rfl (hb hby own_h7) rfl rfl ?_
      show Steps p.tables e below (s₁.setTop (mkF m 11 #[.val (.double d), .second] [(.int (cmpValue (FP.dcmp d (4636737291354636288 : UInt64)) .g))])) _
      exact hh)
    by_cases c11 : (cmpValue (FP.dcmp d (4636737291354636288 : UInt64)) .g) < 0
    ·
      have k3 : own_K p e below (s₁.setTop (mkF m 19 #[.val (.double d), .second] [(.int (1 : Int32))])) (s₁.setTop (entryFrame m #[(.double d)] 2)) := fun t hh => k2 t (by
        refine XS.ifNo X0.here hx rfl (hb hby own_h8) rfl (own_ifF_ge c11) ?_
        show Steps p.tables e below (s₁.setTop (mkF m 14 #[.val (.double d), .second] [])) _
        refine XS.iconst X0.here hx rfl (hb hby own_h9) ?_
        show Steps p.tables e below (s₁.setTop (mkF m 15 #[.val (.double d), .second] [(.int (1 : Int32))])) _
        refine XS.goto X0.here hx rfl (pc0 := 15) (pc' := 19) rfl (hb hby own_h10) (by decide) (by decide) ?_
        show Steps p.tables e below (s₁.setTop (mkF m 19 #[.val (.double d), .second] [(.int (1 : Int32))])) _
        exact hh)
      obtain ⟨fs, hr, hrun, hended, hW, hsame⟩ := X0.leave (v := some (.int (1 : Int32))) (fun h => by rw [Bd.returns] at h; cases h)
      refine ⟨_, _, k3 _ (retN X0 hx (t := .boolean) Bd.returns (by simp) (hb hby own_h12) hr), hrun, hended, _, _, rfl, ?_, ⟨_, rfl⟩, hW, hsame.mono (by decide) (by decide)⟩
      show QA d h0 n0 _ s₁.heap _
      rw [e0]
      exact ⟨by simp [own_co2, c3, c11], N0, rfl⟩
    ·
      have k4 : own_K p e below (s₁.setTop (mkF m 19 #[.val (.double d), .second] [(.int (0 : Int32))])) (s₁.setTop (entryFrame m #[(.double d)] 2)) := fun t hh => k2 t (by
        refine XS.ifYes X0.here hx rfl (pc0 := 11) (pc' := 18) rfl (hb hby own_h8) rfl (own_ifT_ge c11) (by decide) (by decide) ?_
        show Steps p.tables e below (s₁.setTop (mkF m 18 #[.val (.double d), .second] [])) _
        refine XS.iconst X0.here hx rfl (hb hby own_h11) ?_
        show Steps p.tables e below (s₁.setTop (mkF m 19 #[.val (.double d), .second] [(.int (0 : Int32))])) _
        exact hh)
      obtain ⟨fs, hr, hrun, hended, hW, hsame⟩ := X0.leave (v := some (.int (0 : Int32))) (fun h => by rw [Bd.returns] at h; cases h)
      refine ⟨_, _, k4 _ (retN X0 hx (t := .boolean) Bd.returns (by simp) (hb hby own_h12) hr), hrun, hended, _, _, rfl, ?_, ⟨_, rfl⟩, hW, hsame.mono (by decide) (by decide)⟩
      show QA d h0 n0 _ s₁.heap _
      rw [e0]
      exact ⟨by simp [own_co2, c3, c11], N0, rfl⟩
  ·
    have k5 : own_K p e below (s₁.setTop (mkF m 19 #[.val (.double d), .second] [(.int (0 : Int32))])) (s₁.setTop (entryFrame m #[(.double d)] 2)) := fun t hh => k1 t (by
      refine XS.ifYes X0.here hx rfl (pc0 := 3) (pc' := 18) rfl (hb hby own_h4) rfl (own_ifT_le c3) (by decide) (by decide) ?_
      show Steps p.tables e below (s₁.setTop (mkF m 18 #[.val (.double d), .second] [])) _
      refine XS.iconst X0.here hx rfl (hb hby own_h11) ?_
      show Steps p.tables e below (s₁.setTop (mkF m 19 #[.val (.double d), .second] [(.int (0 : Int32))])) _
      exact hh)
    obtain ⟨fs, hr, hrun, hended, hW, hsame⟩ := X0.leave (v := some (.int (0 : Int32))) (fun h => by rw [Bd.returns] at h; cases h)
    refine ⟨_, _, k5 _ (retN X0 hx (t := .boolean) Bd.returns (by simp) (hb hby own_h12) hr), hrun, hended, _, _, rfl, ?_, ⟨_, rfl⟩, hW, hsame.mono (by decide) (by decide)⟩
    show QA d h0 n0 _ s₁.heap _
    rw [e0]
    exact ⟨by simp [own_co2, c3], N0, rfl⟩
def QL (h0 : Heap) (n0 : Nat) (v : Option Value) (h : Heap) (L : List Loc) : Prop := v = some (.int 1) ∧ Fr n0 L
theorem own_h15 : plainName "com/example/flueline/flueline/Method19IsPossibleCarbonDioxidePinLaw" = true := by first | (simp [plainName, overriddenIn]; done) | decide +kernel
set_option maxRecDepth 65536 in
set_option maxHeartbeats 40000000 in
theorem rmL (l : Launch) (Z : State) (a0 : Array Value) (hw : ∀ d ∈ tables_1, d.before a0 Z = true) (ws : List Jvm.Cond) (a k : Int32) (h0 : Heap) (n0 : Nat) (Z0 : n0 ≤ h0.size) :
    MetFree l x (head1 (Jvm.Cond.code x code maxLocals ret :: ws) room_1) (fun ar_ U => ar_ = #[(.int a), (.int k)] ∧ Z.Warmed39 U.vm ∧ U.heap = h0) (fun _ _ _ _ _ => True) (fun _ U o U' => ∃ v L, o = .returned v ∧ QL h0 n0 v U'.heap L ∧ FrameEnd U o U' L 0 0) := by
  refine MetFree.of_bodySF (plainFor_of_name own_h15) hisR ?_
  intro p e s m args below meth c s₁ Bd hml0 hP hK
  obtain ⟨rfl, hZ, hh⟩ := hP
  have hx := Bd.exec
  have hby := Bd.bytes
  have hml : c.maxLocals = 9 := hml0
  have hown : s.vm.findClass "com/example/flueline/flueline/Method19IsPossibleCarbonDioxidePinLaw" = some m.cls := findClass_of_methodNamed Bd.named
  have hnm := (name_of_methodNamed Bd.named Bd.method).1
  have X0 : Stand p l e room_1 s m #[(.int a), (.int k)] below meth c s₁ [] 0 0 := Stand.of_body Bd
  have e0 : s₁.heap = h0 := by rw [← hh, Bd.state]; rfl
  have N0 := Fr.nil n0
  have k0 : own_K p e below (s₁.setTop (mkF m 0 #[.val (.int a), .val (.int k), .unset, .unset, .unset, .unset, .unset, .unset, .unset] [])) (s₁.setTop (entryFrame m #[(.int a), (.int k)] maxLocals)) := fun t k => castTop (by clear k; first | (simp [entryFrame, mkF, argsToLocals, Value.category, maxLocals]; done) | rfl) k
  have k1 : own_K p e below (s₁.setTop (mkF m 13 #[.val (.int a), .val (.int k), .val (.int (k &&& (31 : Int32))), .val (.long ((1 : Int64) <<< ((k &&& (31 : Int32)) &&& 0x3f).toInt64)), .second, .unset, .unset, .unset, .unset] [(.int (k &&& (32 : Int32)))])) (s₁.setTop (entryFrame m #[(.int a), (.int k)] maxLocals)) := fun t hh => k0 t (by
    refine XS.iloadN X0.here hx rfl (hb hby at_0) rfl ?_
    show Steps p.tables e below (s₁.setTop (mkF m 1 #[.val (.int a), .val (.int k), .unset, .unset, .unset, .unset, .unset, .unset, .unset] [(.int k)])) _
    refine XS.bipush X0.here hx rfl (hb hby at_1) ?_
    show Steps p.tables e below (s₁.setTop (mkF m 3 #[.val (.int a), .val (.int k), .unset, .unset, .unset, .unset, .unset, .unset, .unset] [(.int (31 : Int32)), (.int k)])) _
    refine XS.iand X0.here hx rfl (hb hby at_3) rfl ?_
    show Steps p.tables e below (s₁.setTop (mkF m 4 #[.val (.int a), .val (.int k), .unset, .unset, .unset, .unset, .unset, .unset, .unset] [(.int (k &&& (31 : Int32)))])) _
    refine XS.istoreN X0.here hx rfl (hb hby at_4) rfl (l' := #[.val (.int a), .val (.int k), .val (.int (k &&& (31 : Int32))), .unset, .unset, .unset, .unset, .unset, .unset]) rfl ?_
    show Steps p.tables e below (s₁.setTop (mkF m 5 #[.val (.int a), .val (.int k), .val (.int (k &&& (31 : Int32))), .unset, .unset, .unset, .unset, .unset, .unset] [])) _
    refine XS.lconst X0.here hx rfl (hb hby at_5) ?_
    show Steps p.tables e below (s₁.setTop (mkF m 6 #[.val (.int a), .val (.int k), .val (.int (k &&& (31 : Int32))), .unset, .unset, .unset, .unset, .unset, .unset] [(.long (1 : Int64))])) _
    refine XS.iloadN X0.here hx rfl (hb hby at_6) rfl ?_
    show Steps p.tables e below (s₁.setTop (mkF m 7 #[.val (.int a), .val (.int k), .val (.int (k &&& (31 : Int32))), .unset, .unset, .unset, .unset, .unset, .unset] [(.int (k &&& (31 : Int32))), (.long (1 : Int64))])) _
    refine XS.lshl X0.here hx rfl (hb hby at_7) rfl ?_
    show Steps p.tables e below (s₁.setTop (mkF m 8 #[.val (.int a), .val (.int k), .val (.int (k &&& (31 : Int32))), .unset, .unset, .unset, .unset, .unset, .unset] [(.long ((1 : Int64) <<< ((k &&& (31 : Int32)) &&& 0x3f).toInt64))])) _
    refine XS.lstoreN X0.here hx rfl (hb hby at_8) rfl (l' := #[.val (.int a), .val (.int k), .val (.int (k &&& (31 : Int32))), .val (.long ((1 : Int64) <<< ((k &&& (31 : Int32)) &&& 0x3f).toInt64)), .second, .unset, .unset, .unset, .unset]) rfl ?_
    show Steps p.tables e below (s₁.setTop (mkF m 9 #[.val (.int a), .val (.int k), .val (.int (k &&& (31 : Int32))), .val (.long ((1 : Int64) <<< ((k &&& (31 : Int32)) &&& 0x3f).toInt64)), .second, .unset, .unset, .unset, .unset] [])) _
    refine XS.iloadN X0.here hx rfl (hb hby at_9) rfl ?_
    show Steps p.tables e below (s₁.setTop (mkF m 10 #[.val (.int a), .val (.int k), .val (.int (k &&& (31 : Int32))), .val (.long ((1 : Int64) <<< ((k &&& (31 : Int32)) &&& 0x3f).toInt64)), .second, .unset, .unset, .unset, .unset] [(.int k)])) _
    refine XS.bipush X0.here hx rfl (hb hby at_10) ?_
    show Steps p.tables e below (s₁.setTop (mkF m 12 #[.val (.int a), .val (.int k), .val (.int (k &&& (31 : Int32))), .val (.long ((1 : Int64) <<< ((k &&& (31 : Int32)) &&& 0x3f).toInt64)), .second, .unset, .unset, .unset, .unset] [(.int (32 : Int32)), (.int k)])) _
    refine XS.iand X0.here hx rfl (hb hby at_12) rfl ?_
    show Steps p.tables e below (s₁.setTop (mkF m 13 #[.val (.int a), .val (.int k), .val (.int (k &&& (31 : Int32))), .val (.long ((1 : Int64) <<< ((k &&& (31 : Int32)) &&& 0x3f).toInt64)), .second, .unset, .unset, .unset, .unset] [(.int (k &&& (32 : Int32)))])) _
    exact hh)
  by_cases c13 : (k &&& (32 : Int32)) = 0
  ·
    have k2 : own_K p e below (s₁.setTop (mkF m 68 #[.val (.int a), .val (.int k), .val (.int (k &&& (31 : Int32))), .val (.long ((1 : Int64) <<< ((k &&& (31 : Int32)) &&& 0x3f).toInt64)), .second, .val (.int (0 : Int32)), .val (.double (FP.ddiv (FP.i2d a) (FP.l2d ((1 : Int64) <<< ((k &&& (31 : Int32)) &&& 0x3f).toInt64)))), .second, .unset] [(.int a)])) (s₁.setTop (entryFrame m #[(.int a), (.int k)] maxLocals)) := fun t hh => k1 t (by
      refine XS.ifYes X0.here hx rfl (pc0 := 13) (pc' := 20) rfl (hb hby at_13) rfl (own_ifT_eq c13) (by decide) (by decide) ?_
      show Steps p.tables e below (s₁.setTop (mkF m 20 #[.val (.int a), .val (.int k), .val (.int (k &&& (31 : Int32))), .val (.long ((1 : Int64) <<< ((k &&& (31 : Int32)) &&& 0x3f).toInt64)), .second, .unset, .unset, .unset, .unset] [])) _
      refine XS.iconst X0.here hx rfl (hb hby at_20) ?_
      show Steps p.tables e below (s₁.setTop (mkF m 21 #[.val (.int a), .val (.int k), .val (.int (k &&& (31 : Int32))), .val (.long ((1 : Int64) <<< ((k &&& (31 : Int32)) &&& 0x3f).toInt64)), .second, .unset, .unset, .unset, .unset] [(.int (0 : Int32))])) _
      refine XS.istore X0.here hx rfl (hb hby at_21) rfl (l' := #[.val (.int a), .val (.int k), .val (.int (k &&& (31 : Int32))), .val (.long ((1 : Int64) <<< ((k &&& (31 : Int32)) &&& 0x3f).toInt64)), .second, .val (.int (0 : Int32)), .unset, .unset, .unset]) rfl ?_
      show Steps p.tables e below (s₁.setTop (mkF m 23 #[.val (.int a), .val (.int k), .val (.int (k &&& (31 : Int32))), .val (.long ((1 : Int64) <<< ((k &&& (31 : Int32)) &&& 0x3f).toInt64)), .second, .val (.int (0 : Int32)), .unset, .unset, .unset] [])) _
      refine XS.iload X0.here hx rfl (hb hby at_23) rfl ?_
      show Steps p.tables e below (s₁.setTop (mkF m 25 #[.val (.int a), .val (.int k), .val (.int (k &&& (31 : Int32))), .val (.long ((1 : Int64) <<< ((k &&& (31 : Int32)) &&& 0x3f).toInt64)), .second, .val (.int (0 : Int32)), .unset, .unset, .unset] [(.int (0 : Int32))])) _
      refine XS.ifYes X0.here hx rfl (pc0 := 25) (pc' := 60) rfl (hb hby at_25) rfl (by decide) (by decide) (by decide) ?_
      show Steps p.tables e below (s₁.setTop (mkF m 60 #[.val (.int a), .val (.int k), .val (.int (k &&& (31 : Int32))), .val (.long ((1 : Int64) <<< ((k &&& (31 : Int32)) &&& 0x3f).toInt64)), .second, .val (.int (0 : Int32)), .unset, .unset, .unset] [])) _
      refine XS.iloadN X0.here hx rfl (hb hby at_60) rfl ?_
      show Steps p.tables e below (s₁.setTop (mkF m 61 #[.val (.int a), .val (.int k), .val (.int (k &&& (31 : Int32))), .val (.long ((1 : Int64) <<< ((k &&& (31 : Int32)) &&& 0x3f).toInt64)), .second, .val (.int (0 : Int32)), .unset, .unset, .unset] [(.int a)])) _
      refine XS.i2dS X0.here hx rfl (hb hby at_61) rfl rfl ?_
      show Steps p.tables e below (s₁.setTop (mkF m 62 #[.val (.int a), .val (.int k), .val (.int (k &&& (31 : Int32))), .val (.long ((1 : Int64) <<< ((k &&& (31 : Int32)) &&& 0x3f).toInt64)), .second, .val (.int (0 : Int32)), .unset, .unset, .unset] [(.double (FP.i2d a))])) _
      refine XS.lloadN X0.here hx rfl (hb hby at_62) rfl ?_
      show Steps p.tables e below (s₁.setTop (mkF m 63 #[.val (.int a), .val (.int k), .val (.int (k &&& (31 : Int32))), .val (.long ((1 : Int64) <<< ((k &&& (31 : Int32)) &&& 0x3f).toInt64)), .second, .val (.int (0 : Int32)), .unset, .unset, .unset] [(.long ((1 : Int64) <<< ((k &&& (31 : Int32)) &&& 0x3f).toInt64)), (.double (FP.i2d a))])) _
      refine XS.l2dS X0.here hx rfl (hb hby at_63) rfl rfl ?_
      show Steps p.tables e below (s₁.setTop (mkF m 64 #[.val (.int a), .val (.int k), .val (.int (k &&& (31 : Int32))), .val (.long ((1 : Int64) <<< ((k &&& (31 : Int32)) &&& 0x3f).toInt64)), .second, .val (.int (0 : Int32)), .unset, .unset, .unset] [(.double (FP.l2d ((1 : Int64) <<< ((k &&& (31 : Int32)) &&& 0x3f).toInt64))), (.double (FP.i2d a))])) _
      refine XS.ddivS X0.here hx rfl (hb hby at_64) rfl (own_div_no a k) rfl ?_
      show Steps p.tables e below (s₁.setTop (mkF m 65 #[.val (.int a), .val (.int k), .val (.int (k &&& (31 : Int32))), .val (.long ((1 : Int64) <<< ((k &&& (31 : Int32)) &&& 0x3f).toInt64)), .second, .val (.int (0 : Int32)), .unset, .unset, .unset] [(.double (FP.ddiv (FP.i2d a) (FP.l2d ((1 : Int64) <<< ((k &&& (31 : Int32)) &&& 0x3f).toInt64))))])) _
      refine XS.dstore X0.here hx rfl (hb hby at_65) rfl (l' := #[.val (.int a), .val (.int k), .val (.int (k &&& (31 : Int32))), .val (.long ((1 : Int64) <<< ((k &&& (31 : Int32)) &&& 0x3f).toInt64)), .second, .val (.int (0 : Int32)), .val (.double (FP.ddiv (FP.i2d a) (FP.l2d ((1 : Int64) <<< ((k &&& (31 : Int32)) &&& 0x3f).toInt64)))), .second, .unset]) rfl ?_
      show Steps p.tables e below (s₁.setTop (mkF m 67 #[.val (.int a), .val (.int k), .val (.int (k &&& (31 : Int32))), .val (.long ((1 : Int64) <<< ((k &&& (31 : Int32)) &&& 0x3f).toInt64)), .second, .val (.int (0 : Int32)), .val (.double (FP.ddiv (FP.i2d a) (FP.l2d ((1 : Int64) <<< ((k &&& (31 : Int32)) &&& 0x3f).toInt64)))), .second, .unset] [])) _
      refine XS.iloadN X0.here hx rfl (hb hby at_67) rfl ?_
      show Steps p.tables e below (s₁.setTop (mkF m 68 #[.val (.int a), .val (.int k), .val (.int (k &&& (31 : Int32))), .val (.long ((1 : Int64) <<< ((k &&& (31 : Int32)) &&& 0x3f).toInt64)), .second, .val (.int (0 : Int32)), .val (.double (FP.ddiv (FP.i2d a) (FP.l2d ((1 : Int64) <<< ((k &&& (31 : Int32)) &&& 0x3f).toInt64)))), .second, .unset] [(.int a)])) _
      exact hh)
    by_cases c68 : 0 < a
    ·
      have k3 : own_K p e below (s₁.setTop (mkF m 79 #[.val (.int a), .val (.int k), .val (.int (k &&& (31 : Int32))), .val (.long ((1 : Int64) <<< ((k &&& (31 : Int32)) &&& 0x3f).toInt64)), .second, .val (.int (0 : Int32)), .val (.double (FP.ddiv (FP.i2d a) (FP.l2d ((1 : Int64) <<< ((k &&& (31 : Int32)) &&& 0x3f).toInt64)))), .second, .unset] [(.int (lcmpW (a.toInt64) ((100 : Int64) * ((1 : Int64) <<< ((k &&& (31 : Int32)) &&& 0x3f).toInt64))))])) (s₁.setTop (entryFrame m #[(.int a), (.int k)] maxLocals)) := fun t hh => k2 t (by
        refine XS.ifNo X0.here hx rfl (hb hby at_68) rfl (own_ifF_le c68) ?_
        show Steps p.tables e below (s₁.setTop (mkF m 71 #[.val (.int a), .val (.int k), .val (.int (k &&& (31 : Int32))), .val (.long ((1 : Int64) <<< ((k &&& (31 : Int32)) &&& 0x3f).toInt64)), .second, .val (.int (0 : Int32)), .val (.double (FP.ddiv (FP.i2d a) (FP.l2d ((1 : Int64) <<< ((k &&& (31 : Int32)) &&& 0x3f).toInt64)))), .second, .unset] [])) _
        refine XS.iloadN X0.here hx rfl (hb hby at_71) rfl ?_
        show Steps p.tables e below (s₁.setTop (mkF m 72 #[.val (.int a), .val (.int k), .val (.int (k &&& (31 : Int32))), .val (.long ((1 : Int64) <<< ((k &&& (31 : Int32)) &&& 0x3f).toInt64)), .second, .val (.int (0 : Int32)), .val (.double (FP.ddiv (FP.i2d a) (FP.l2d ((1 : Int64) <<< ((k &&& (31 : Int32)) &&& 0x3f).toInt64)))), .second, .unset] [(.int a)])) _
        refine XS.i2l X0.here hx rfl (hb hby at_72) rfl ?_
        show Steps p.tables e below (s₁.setTop (mkF m 73 #[.val (.int a), .val (.int k), .val (.int (k &&& (31 : Int32))), .val (.long ((1 : Int64) <<< ((k &&& (31 : Int32)) &&& 0x3f).toInt64)), .second, .val (.int (0 : Int32)), .val (.double (FP.ddiv (FP.i2d a) (FP.l2d ((1 : Int64) <<< ((k &&& (31 : Int32)) &&& 0x3f).toInt64)))), .second, .unset] [(.long (a.toInt64))])) _
        refine X0.ldc2Long hx hown (mvT hZ (wT hw 4 rfl)) (g := (mkF m 73 #[.val (.int a), .val (.int k), .val (.int (k &&& (31 : Int32))), .val (.long ((1 : Int64) <<< ((k &&& (31 : Int32)) &&& 0x3f).toInt64)), .second, .val (.int (0 : Int32)), .val (.double (FP.ddiv (FP.i2d a) (FP.l2d ((1 : Int64) <<< ((k &&& (31 : Int32)) &&& 0x3f).toInt64)))), .second, .unset] [(.long (a.toInt64))])) rfl (hb hby at_73) _ ?_
        show Steps p.tables e below (s₁.setTop (mkF m 76 #[.val (.int a), .val (.int k), .val (.int (k &&& (31 : Int32))), .val (.long ((1 : Int64) <<< ((k &&& (31 : Int32)) &&& 0x3f).toInt64)), .second, .val (.int (0 : Int32)), .val (.double (FP.ddiv (FP.i2d a) (FP.l2d ((1 : Int64) <<< ((k &&& (31 : Int32)) &&& 0x3f).toInt64)))), .second, .unset] [(.long (100 : Int64)), (.long (a.toInt64))])) _
        refine XS.lloadN X0.here hx rfl (hb hby at_76) rfl ?_
        show Steps p.tables e below (s₁.setTop (mkF m 77 #[.val (.int a), .val (.int k), .val (.int (k &&& (31 : Int32))), .val (.long ((1 : Int64) <<< ((k &&& (31 : Int32)) &&& 0x3f).toInt64)), .second, .val (.int (0 : Int32)), .val (.double (FP.ddiv (FP.i2d a) (FP.l2d ((1 : Int64) <<< ((k &&& (31 : Int32)) &&& 0x3f).toInt64)))), .second, .unset] [(.long ((1 : Int64) <<< ((k &&& (31 : Int32)) &&& 0x3f).toInt64)), (.long (100 : Int64)), (.long (a.toInt64))])) _
        refine XS.lmul X0.here hx rfl (hb hby at_77) rfl ?_
        show Steps p.tables e below (s₁.setTop (mkF m 78 #[.val (.int a), .val (.int k), .val (.int (k &&& (31 : Int32))), .val (.long ((1 : Int64) <<< ((k &&& (31 : Int32)) &&& 0x3f).toInt64)), .second, .val (.int (0 : Int32)), .val (.double (FP.ddiv (FP.i2d a) (FP.l2d ((1 : Int64) <<< ((k &&& (31 : Int32)) &&& 0x3f).toInt64)))), .second, .unset] [(.long ((100 : Int64) * ((1 : Int64) <<< ((k &&& (31 : Int32)) &&& 0x3f).toInt64))), (.long (a.toInt64))])) _
        refine XS.lcmp X0.here hx rfl (hb hby at_78) rfl ?_
        show Steps p.tables e below (s₁.setTop (mkF m 79 #[.val (.int a), .val (.int k), .val (.int (k &&& (31 : Int32))), .val (.long ((1 : Int64) <<< ((k &&& (31 : Int32)) &&& 0x3f).toInt64)), .second, .val (.int (0 : Int32)), .val (.double (FP.ddiv (FP.i2d a) (FP.l2d ((1 : Int64) <<< ((k &&& (31 : Int32)) &&& 0x3f).toInt64)))), .second, .unset] [(.int (lcmpW (a.toInt64) ((100 : Int64) * ((1 : Int64) <<< ((k &&& (31 : Int32)) &&& 0x3f).toInt64))))])) _
        exact hh)
      by_cases c79 : (lcmpW (a.toInt64) ((100 : Int64) * ((1 : Int64) <<< ((k &&& (31 : Int32)) &&& 0x3f).toInt64))) < 0
      ·
        have k4 : own_K p e below (s₁.setTop (mkF m 91 #[.val (.int a), .val (.int k), .val (.int (k &&& (31 : Int32))), .val (.long ((1 : Int64) <<< ((k &&& (31 : Int32)) &&& 0x3f).toInt64)), .second, .val (.int (0 : Int32)), .val (.double (FP.ddiv (FP.i2d a) (FP.l2d ((1 : Int64) <<< ((k &&& (31 : Int32)) &&& 0x3f).toInt64)))), .second, .val (.int (1 : Int32))] [(.double (FP.ddiv (FP.i2d a) (FP.l2d ((1 : Int64) <<< ((k &&& (31 : Int32)) &&& 0x3f).toInt64))))])) (s₁.setTop (entryFrame m #[(.int a), (.int k)] maxLocals)) := fun t hh => k3 t (by
          refine XS.ifNo X0.here hx rfl (hb hby at_79) rfl (own_ifF_ge c79) ?_
          show Steps p.tables e below (s₁.setTop (mkF m 82 #[.val (.int a), .val (.int k), .val (.int (k &&& (31 : Int32))), .val (.long ((1 : Int64) <<< ((k &&& (31 : Int32)) &&& 0x3f).toInt64)), .second, .val (.int (0 : Int32)), .val (.double (FP.ddiv (FP.i2d a) (FP.l2d ((1 : Int64) <<< ((k &&& (31 : Int32)) &&& 0x3f).toInt64)))), .second, .unset] [])) _
          refine XS.iconst X0.here hx rfl (hb hby at_82) ?_
          show Steps p.tables e below (s₁.setTop (mkF m 83 #[.val (.int a), .val (.int k), .val (.int (k &&& (31 : Int32))), .val (.long ((1 : Int64) <<< ((k &&& (31 : Int32)) &&& 0x3f).toInt64)), .second, .val (.int (0 : Int32)), .val (.double (FP.ddiv (FP.i2d a) (FP.l2d ((1 : Int64) <<< ((k &&& (31 : Int32)) &&& 0x3f).toInt64)))), .second, .unset] [(.int (1 : Int32))])) _
          refine XS.goto X0.here hx rfl (pc0 := 83) (pc' := 87) rfl (hb hby at_83) (by decide) (by decide) ?_
          show Steps p.tables e below (s₁.setTop (mkF m 87 #[.val (.int a), .val (.int k), .val (.int (k &&& (31 : Int32))), .val (.long ((1 : Int64) <<< ((k &&& (31 : Int32)) &&& 0x3f).toInt64)), .second, .val (.int (0 : Int32)), .val (.double (FP.ddiv (FP.i2d a) (FP.l2d ((1 : Int64) <<< ((k &&& (31 : Int32)) &&& 0x3f).toInt64)))), .second, .unset] [(.int (1 : Int32))])) _
          refine XS.istore X0.here hx rfl (hb hby at_87) rfl (l' := #[.val (.int a), .val (.int k), .val (.int (k &&& (31 : Int32))), .val (.long ((1 : Int64) <<< ((k &&& (31 : Int32)) &&& 0x3f).toInt64)), .second, .val (.int (0 : Int32)), .val (.double (FP.ddiv (FP.i2d a) (FP.l2d ((1 : Int64) <<< ((k &&& (31 : Int32)) &&& 0x3f).toInt64)))), .second, .val (.int (1 : Int32))]) rfl ?_
          show Steps p.tables e below (s₁.setTop (mkF m 89 #[.val (.int a), .val (.int k), .val (.int (k &&& (31 : Int32))), .val (.long ((1 : Int64) <<< ((k &&& (31 : Int32)) &&& 0x3f).toInt64)), .second, .val (.int (0 : Int32)), .val (.double (FP.ddiv (FP.i2d a) (FP.l2d ((1 : Int64) <<< ((k &&& (31 : Int32)) &&& 0x3f).toInt64)))), .second, .val (.int (1 : Int32))] [])) _
          refine XS.dload X0.here hx rfl (hb hby at_89) rfl ?_
          show Steps p.tables e below (s₁.setTop (mkF m 91 #[.val (.int a), .val (.int k), .val (.int (k &&& (31 : Int32))), .val (.long ((1 : Int64) <<< ((k &&& (31 : Int32)) &&& 0x3f).toInt64)), .second, .val (.int (0 : Int32)), .val (.double (FP.ddiv (FP.i2d a) (FP.l2d ((1 : Int64) <<< ((k &&& (31 : Int32)) &&& 0x3f).toInt64)))), .second, .val (.int (1 : Int32))] [(.double (FP.ddiv (FP.i2d a) (FP.l2d ((1 : Int64) <<< ((k &&& (31 : Int32)) &&& 0x3f).toInt64))))])) _
          exact hh)
        obtain ⟨_, _, ⟨T1, L2, k_3, n_4⟩, -, X5, ⟨Lc6, hQ7, l_8, y_9, z_10⟩, st11⟩ := Jvm.LawKit.callS X0 hx (y := (⟨"com/example/flueline/flueline/Method19", "isPossibleCarbonDioxide", "(D)Z"⟩ : MethodName)) hown (mvT hZ (wT hw 0 rfl)) (mvT hZ (wT hw 1 rfl)) (mvT hZ (wT hw 2 rfl)) (mvT hZ (wT hw 3 rfl)) (by decide) (backOf (W := 0) (rmA l Z a0 hw [] (FP.ddiv (FP.i2d a) (FP.l2d ((1 : Int64) <<< ((k &&& (31 : Int32)) &&& 0x3f).toInt64))) h0 n0 Z0) hZ (wT hw 3 rfl) (wT hw 2 rfl) (by decide) (by decide)) (g := (mkF m 91 #[.val (.int a), .val (.int k), .val (.int (k &&& (31 : Int32))), .val (.long ((1 : Int64) <<< ((k &&& (31 : Int32)) &&& 0x3f).toInt64)), .second, .val (.int (0 : Int32)), .val (.double (FP.ddiv (FP.i2d a) (FP.l2d ((1 : Int64) <<< ((k &&& (31 : Int32)) &&& 0x3f).toInt64)))), .second, .val (.int (1 : Int32))] [(.double (FP.ddiv (FP.i2d a) (FP.l2d ((1 : Int64) <<< ((k &&& (31 : Int32)) &&& 0x3f).toInt64))))])) rfl (by rw [hml]; rfl) (argsL := [(.double (FP.ddiv (FP.i2d a) (FP.l2d ((1 : Int64) <<< ((k &&& (31 : Int32)) &&& 0x3f).toInt64))))]) (rest := []) (lenOf own_h14 rfl) rfl (by show 2 * 0 + _ ≤ _; exact Nat.le_of_eq rfl) (hb hby at_91) (fun _ _ => ⟨rfl, e0, (by decide : 0 + 0 ≤ _), (by decide : 0 + 0 ≤ _)⟩)
        dsimp only [Pt.U, Pt.locs, Pt.cells, Pt.slots] at X5 l_8 y_9 z_10 st11 hQ7
        subst l_8 y_9 z_10
        obtain ⟨rfl, N12, e13⟩ := hQ7
        have N14 := Fr.app N0 N12
        have k5 : own_K p e below (T1.setTop (mkF m 94 #[.val (.int a), .val (.int k), .val (.int (k &&& (31 : Int32))), .val (.long ((1 : Int64) <<< ((k &&& (31 : Int32)) &&& 0x3f).toInt64)), .second, .val (.int (0 : Int32)), .val (.double (FP.ddiv (FP.i2d a) (FP.l2d ((1 : Int64) <<< ((k &&& (31 : Int32)) &&& 0x3f).toInt64)))), .second, .val (.int (1 : Int32))] [(.int (own_co2 (FP.ddiv (FP.i2d a) (FP.l2d ((1 : Int64) <<< ((k &&& (31 : Int32)) &&& 0x3f).toInt64)))))])) (s₁.setTop (entryFrame m #[(.int a), (.int k)] maxLocals)) := fun t hh => k4 t (st11 t hh)
        have k6 : own_K p e below (T1.setTop (mkF m 104 #[.val (.int a), .val (.int k), .val (.int (k &&& (31 : Int32))), .val (.long ((1 : Int64) <<< ((k &&& (31 : Int32)) &&& 0x3f).toInt64)), .second, .val (.int (0 : Int32)), .val (.double (FP.ddiv (FP.i2d a) (FP.l2d ((1 : Int64) <<< ((k &&& (31 : Int32)) &&& 0x3f).toInt64)))), .second, .val (.int (1 : Int32))] [(.int (1 : Int32))])) (s₁.setTop (entryFrame m #[(.int a), (.int k)] maxLocals)) := fun t hh => k5 t (by
          refine XS.iload X5.here hx rfl (hb hby at_94) rfl ?_
          show Steps p.tables e below (T1.setTop (mkF m 96 #[.val (.int a), .val (.int k), .val (.int (k &&& (31 : Int32))), .val (.long ((1 : Int64) <<< ((k &&& (31 : Int32)) &&& 0x3f).toInt64)), .second, .val (.int (0 : Int32)), .val (.double (FP.ddiv (FP.i2d a) (FP.l2d ((1 : Int64) <<< ((k &&& (31 : Int32)) &&& 0x3f).toInt64)))), .second, .val (.int (1 : Int32))] [(.int (1 : Int32)), (.int (own_co2 (FP.ddiv (FP.i2d a) (FP.l2d ((1 : Int64) <<< ((k &&& (31 : Int32)) &&& 0x3f).toInt64)))))])) _
          refine XS.icmpNo X5.here hx rfl (hb hby at_96) rfl (own_icF_ne (own_dn1 a k c68 c79)) ?_
          show Steps p.tables e below (T1.setTop (mkF m 99 #[.val (.int a), .val (.int k), .val (.int (k &&& (31 : Int32))), .val (.long ((1 : Int64) <<< ((k &&& (31 : Int32)) &&& 0x3f).toInt64)), .second, .val (.int (0 : Int32)), .val (.double (FP.ddiv (FP.i2d a) (FP.l2d ((1 : Int64) <<< ((k &&& (31 : Int32)) &&& 0x3f).toInt64)))), .second, .val (.int (1 : Int32))] [])) _
          refine XS.iconst X5.here hx rfl (hb hby at_99) ?_
          show Steps p.tables e below (T1.setTop (mkF m 100 #[.val (.int a), .val (.int k), .val (.int (k &&& (31 : Int32))), .val (.long ((1 : Int64) <<< ((k &&& (31 : Int32)) &&& 0x3f).toInt64)), .second, .val (.int (0 : Int32)), .val (.double (FP.ddiv (FP.i2d a) (FP.l2d ((1 : Int64) <<< ((k &&& (31 : Int32)) &&& 0x3f).toInt64)))), .second, .val (.int (1 : Int32))] [(.int (1 : Int32))])) _
          refine XS.goto X5.here hx rfl (pc0 := 100) (pc' := 104) rfl (hb hby at_100) (by decide) (by decide) ?_
          show Steps p.tables e below (T1.setTop (mkF m 104 #[.val (.int a), .val (.int k), .val (.int (k &&& (31 : Int32))), .val (.long ((1 : Int64) <<< ((k &&& (31 : Int32)) &&& 0x3f).toInt64)), .second, .val (.int (0 : Int32)), .val (.double (FP.ddiv (FP.i2d a) (FP.l2d ((1 : Int64) <<< ((k &&& (31 : Int32)) &&& 0x3f).toInt64)))), .second, .val (.int (1 : Int32))] [(.int (1 : Int32))])) _
          exact hh)
        obtain ⟨fs, hr, hrun, hended, hW, hsame⟩ := X5.leave (v := some (.int (1 : Int32))) (fun h => by rw [Bd.returns] at h; cases h)
        refine ⟨_, _, k6 _ (retN X5 hx (t := .boolean) Bd.returns (by simp) (hb hby at_104) hr), hrun, hended, _, _, rfl, ?_, ⟨_, rfl⟩, hW, hsame.mono (by decide) (by decide)⟩
        show QL h0 n0 _ T1.heap _
        rw [e13]
        exact ⟨rfl, N14⟩
      ·
        have k7 : own_K p e below (s₁.setTop (mkF m 91 #[.val (.int a), .val (.int k), .val (.int (k &&& (31 : Int32))), .val (.long ((1 : Int64) <<< ((k &&& (31 : Int32)) &&& 0x3f).toInt64)), .second, .val (.int (0 : Int32)), .val (.double (FP.ddiv (FP.i2d a) (FP.l2d ((1 : Int64) <<< ((k &&& (31 : Int32)) &&& 0x3f).toInt64)))), .second, .val (.int (0 : Int32))] [(.double (FP.ddiv (FP.i2d a) (FP.l2d ((1 : Int64) <<< ((k &&& (31 : Int32)) &&& 0x3f).toInt64))))])) (s₁.setTop (entryFrame m #[(.int a), (.int k)] maxLocals)) := fun t hh => k3 t (by
          refine XS.ifYes X0.here hx rfl (pc0 := 79) (pc' := 86) rfl (hb hby at_79) rfl (own_ifT_ge c79) (by decide) (by decide) ?_
          show Steps p.tables e below (s₁.setTop (mkF m 86 #[.val (.int a), .val (.int k), .val (.int (k &&& (31 : Int32))), .val (.long ((1 : Int64) <<< ((k &&& (31 : Int32)) &&& 0x3f).toInt64)), .second, .val (.int (0 : Int32)), .val (.double (FP.ddiv (FP.i2d a) (FP.l2d ((1 : Int64) <<< ((k &&& (31 : Int32)) &&& 0x3f).toInt64)))), .second, .unset] [])) _
          refine XS.iconst X0.here hx rfl (hb hby at_86) ?_
          show Steps p.tables e below (s₁.setTop (mkF m 87 #[.val (.int a), .val (.int k), .val (.int (k &&& (31 : Int32))), .val (.long ((1 : Int64) <<< ((k &&& (31 : Int32)) &&& 0x3f).toInt64)), .second, .val (.int (0 : Int32)), .val (.double (FP.ddiv (FP.i2d a) (FP.l2d ((1 : Int64) <<< ((k &&& (31 : Int32)) &&& 0x3f).toInt64)))), .second, .unset] [(.int (0 : Int32))])) _
          refine XS.istore X0.here hx rfl (hb hby at_87) rfl (l' := #[.val (.int a), .val (.int k), .val (.int (k &&& (31 : Int32))), .val (.long ((1 : Int64) <<< ((k &&& (31 : Int32)) &&& 0x3f).toInt64)), .second, .val (.int (0 : Int32)), .val (.double (FP.ddiv (FP.i2d a) (FP.l2d ((1 : Int64) <<< ((k &&& (31 : Int32)) &&& 0x3f).toInt64)))), .second, .val (.int (0 : Int32))]) rfl ?_
          show Steps p.tables e below (s₁.setTop (mkF m 89 #[.val (.int a), .val (.int k), .val (.int (k &&& (31 : Int32))), .val (.long ((1 : Int64) <<< ((k &&& (31 : Int32)) &&& 0x3f).toInt64)), .second, .val (.int (0 : Int32)), .val (.double (FP.ddiv (FP.i2d a) (FP.l2d ((1 : Int64) <<< ((k &&& (31 : Int32)) &&& 0x3f).toInt64)))), .second, .val (.int (0 : Int32))] [])) _
          refine XS.dload X0.here hx rfl (hb hby at_89) rfl ?_
          show Steps p.tables e below (s₁.setTop (mkF m 91 #[.val (.int a), .val (.int k), .val (.int (k &&& (31 : Int32))), .val (.long ((1 : Int64) <<< ((k &&& (31 : Int32)) &&& 0x3f).toInt64)), .second, .val (.int (0 : Int32)), .val (.double (FP.ddiv (FP.i2d a) (FP.l2d ((1 : Int64) <<< ((k &&& (31 : Int32)) &&& 0x3f).toInt64)))), .second, .val (.int (0 : Int32))] [(.double (FP.ddiv (FP.i2d a) (FP.l2d ((1 : Int64) <<< ((k &&& (31 : Int32)) &&& 0x3f).toInt64))))])) _
          exact hh)
        obtain ⟨_, _, ⟨T15, L16, k_17, n_18⟩, -, X19, ⟨Lc20, hQ21, l_22, y_23, z_24⟩, st25⟩ := Jvm.LawKit.callS X0 hx (y := (⟨"com/example/flueline/flueline/Method19", "isPossibleCarbonDioxide", "(D)Z"⟩ : MethodName)) hown (mvT hZ (wT hw 0 rfl)) (mvT hZ (wT hw 1 rfl)) (mvT hZ (wT hw 2 rfl)) (mvT hZ (wT hw 3 rfl)) (by decide) (backOf (W := 0) (rmA l Z a0 hw [] (FP.ddiv (FP.i2d a) (FP.l2d ((1 : Int64) <<< ((k &&& (31 : Int32)) &&& 0x3f).toInt64))) h0 n0 Z0) hZ (wT hw 3 rfl) (wT hw 2 rfl) (by decide) (by decide)) (g := (mkF m 91 #[.val (.int a), .val (.int k), .val (.int (k &&& (31 : Int32))), .val (.long ((1 : Int64) <<< ((k &&& (31 : Int32)) &&& 0x3f).toInt64)), .second, .val (.int (0 : Int32)), .val (.double (FP.ddiv (FP.i2d a) (FP.l2d ((1 : Int64) <<< ((k &&& (31 : Int32)) &&& 0x3f).toInt64)))), .second, .val (.int (0 : Int32))] [(.double (FP.ddiv (FP.i2d a) (FP.l2d ((1 : Int64) <<< ((k &&& (31 : Int32)) &&& 0x3f).toInt64))))])) rfl (by rw [hml]; rfl) (argsL := [(.double (FP.ddiv (FP.i2d a) (FP.l2d ((1 : Int64) <<< ((k &&& (31 : Int32)) &&& 0x3f).toInt64))))]) (rest := []) (lenOf own_h14 rfl) rfl (by show 2 * 0 + _ ≤ _; exact Nat.le_of_eq rfl) (hb hby at_91) (fun _ _ => ⟨rfl, e0, (by decide : 0 + 0 ≤ _), (by decide : 0 + 0 ≤ _)⟩)
        dsimp only [Pt.U, Pt.locs, Pt.cells, Pt.slots] at X19 l_22 y_23 z_24 st25 hQ21
        subst l_22 y_23 z_24
        obtain ⟨rfl, N26, e27⟩ := hQ21
        have N28 := Fr.app N0 N26
        have k8 : own_K p e below (T15.setTop (mkF m 94 #[.val (.int a), .val (.int k), .val (.int (k &&& (31 : Int32))), .val (.long ((1 : Int64) <<< ((k &&& (31 : Int32)) &&& 0x3f).toInt64)), .second, .val (.int (0 : Int32)), .val (.double (FP.ddiv (FP.i2d a) (FP.l2d ((1 : Int64) <<< ((k &&& (31 : Int32)) &&& 0x3f).toInt64)))), .second, .val (.int (0 : Int32))] [(.int (own_co2 (FP.ddiv (FP.i2d a) (FP.l2d ((1 : Int64) <<< ((k &&& (31 : Int32)) &&& 0x3f).toInt64)))))])) (s₁.setTop (entryFrame m #[(.int a), (.int k)] maxLocals)) := fun t hh => k7 t (st25 t hh)
        have k9 : own_K p e below (T15.setTop (mkF m 104 #[.val (.int a), .val (.int k), .val (.int (k &&& (31 : Int32))), .val (.long ((1 : Int64) <<< ((k &&& (31 : Int32)) &&& 0x3f).toInt64)), .second, .val (.int (0 : Int32)), .val (.double (FP.ddiv (FP.i2d a) (FP.l2d ((1 : Int64) <<< ((k &&& (31 : Int32)) &&& 0x3f).toInt64)))), .second, .val (.int (0 : Int32))] [(.int (1 : Int32))])) (s₁.setTop (entryFrame m #[(.int a), (.int k)] maxLocals)) := fun t hh => k8 t (by
          refine XS.iload X19.here hx rfl (hb hby at_94) rfl ?_
          show Steps p.tables e below (T15.setTop (mkF m 96 #[.val (.int a), .val (.int k), .val (.int (k &&& (31 : Int32))), .val (.long ((1 : Int64) <<< ((k &&& (31 : Int32)) &&& 0x3f).toInt64)), .second, .val (.int (0 : Int32)), .val (.double (FP.ddiv (FP.i2d a) (FP.l2d ((1 : Int64) <<< ((k &&& (31 : Int32)) &&& 0x3f).toInt64)))), .second, .val (.int (0 : Int32))] [(.int (0 : Int32)), (.int (own_co2 (FP.ddiv (FP.i2d a) (FP.l2d ((1 : Int64) <<< ((k &&& (31 : Int32)) &&& 0x3f).toInt64)))))])) _
          refine XS.icmpNo X19.here hx rfl (hb hby at_96) rfl (own_icF_ne (own_dn0 a k (fun _ => c79))) ?_
          show Steps p.tables e below (T15.setTop (mkF m 99 #[.val (.int a), .val (.int k), .val (.int (k &&& (31 : Int32))), .val (.long ((1 : Int64) <<< ((k &&& (31 : Int32)) &&& 0x3f).toInt64)), .second, .val (.int (0 : Int32)), .val (.double (FP.ddiv (FP.i2d a) (FP.l2d ((1 : Int64) <<< ((k &&& (31 : Int32)) &&& 0x3f).toInt64)))), .second, .val (.int (0 : Int32))] [])) _
          refine XS.iconst X19.here hx rfl (hb hby at_99) ?_
          show Steps p.tables e below (T15.setTop (mkF m 100 #[.val (.int a), .val (.int k), .val (.int (k &&& (31 : Int32))), .val (.long ((1 : Int64) <<< ((k &&& (31 : Int32)) &&& 0x3f).toInt64)), .second, .val (.int (0 : Int32)), .val (.double (FP.ddiv (FP.i2d a) (FP.l2d ((1 : Int64) <<< ((k &&& (31 : Int32)) &&& 0x3f).toInt64)))), .second, .val (.int (0 : Int32))] [(.int (1 : Int32))])) _
          refine XS.goto X19.here hx rfl (pc0 := 100) (pc' := 104) rfl (hb hby at_100) (by decide) (by decide) ?_
          show Steps p.tables e below (T15.setTop (mkF m 104 #[.val (.int a), .val (.int k), .val (.int (k &&& (31 : Int32))), .val (.long ((1 : Int64) <<< ((k &&& (31 : Int32)) &&& 0x3f).toInt64)), .second, .val (.int (0 : Int32)), .val (.double (FP.ddiv (FP.i2d a) (FP.l2d ((1 : Int64) <<< ((k &&& (31 : Int32)) &&& 0x3f).toInt64)))), .second, .val (.int (0 : Int32))] [(.int (1 : Int32))])) _
          exact hh)
        obtain ⟨fs, hr, hrun, hended, hW, hsame⟩ := X19.leave (v := some (.int (1 : Int32))) (fun h => by rw [Bd.returns] at h; cases h)
        refine ⟨_, _, k9 _ (retN X19 hx (t := .boolean) Bd.returns (by simp) (hb hby at_104) hr), hrun, hended, _, _, rfl, ?_, ⟨_, rfl⟩, hW, hsame.mono (by decide) (by decide)⟩
        show QL h0 n0 _ T15.heap _
        rw [e27]
        exact ⟨rfl, N28⟩
    ·
      have k10 : own_K p e below (s₁.setTop (mkF m 91 #[.val (.int a), .val (.int k), .val (.int (k &&& (31 : Int32))), .val (.long ((1 : Int64) <<< ((k &&& (31 : Int32)) &&& 0x3f).toInt64)), .second, .val (.int (0 : Int32)), .val (.double (FP.ddiv (FP.i2d a) (FP.l2d ((1 : Int64) <<< ((k &&& (31 : Int32)) &&& 0x3f).toInt64)))), .second, .val (.int (0 : Int32))] [(.double (FP.ddiv (FP.i2d a) (FP.l2d ((1 : Int64) <<< ((k &&& (31 : Int32)) &&& 0x3f).toInt64))))])) (s₁.setTop (entryFrame m #[(.int a), (.int k)] maxLocals)) := fun t hh => k2 t (by
        refine XS.ifYes X0.here hx rfl (pc0 := 68) (pc' := 86) rfl (hb hby at_68) rfl (own_ifT_le c68) (by decide) (by decide) ?_
        show Steps p.tables e below (s₁.setTop (mkF m 86 #[.val (.int a), .val (.int k), .val (.int (k &&& (31 : Int32))), .val (.long ((1 : Int64) <<< ((k &&& (31 : Int32)) &&& 0x3f).toInt64)), .second, .val (.int (0 : Int32)), .val (.double (FP.ddiv (FP.i2d a) (FP.l2d ((1 : Int64) <<< ((k &&& (31 : Int32)) &&& 0x3f).toInt64)))), .second, .unset] [])) _
        refine XS.iconst X0.here hx rfl (hb hby at_86) ?_
        show Steps p.tables e below (s₁.setTop (mkF m 87 #[.val (.int a), .val (.int k), .val (.int (k &&& (31 : Int32))), .val (.long ((1 : Int64) <<< ((k &&& (31 : Int32)) &&& 0x3f).toInt64)), .second, .val (.int (0 : Int32)), .val (.double (FP.ddiv (FP.i2d a) (FP.l2d ((1 : Int64) <<< ((k &&& (31 : Int32)) &&& 0x3f).toInt64)))), .second, .unset] [(.int (0 : Int32))])) _
        refine XS.istore X0.here hx rfl (hb hby at_87) rfl (l' := #[.val (.int a), .val (.int k), .val (.int (k &&& (31 : Int32))), .val (.long ((1 : Int64) <<< ((k &&& (31 : Int32)) &&& 0x3f).toInt64)), .second, .val (.int (0 : Int32)), .val (.double (FP.ddiv (FP.i2d a) (FP.l2d ((1 : Int64) <<< ((k &&& (31 : Int32)) &&& 0x3f).toInt64)))), .second, .val (.int (0 : Int32))]) rfl ?_
        show Steps p.tables e below (s₁.setTop (mkF m 89 #[.val (.int a), .val (.int k), .val (.int (k &&& (31 : Int32))), .val (.long ((1 : Int64) <<< ((k &&& (31 : Int32)) &&& 0x3f).toInt64)), .second, .val (.int (0 : Int32)), .val (.double (FP.ddiv (FP.i2d a) (FP.l2d ((1 : Int64) <<< ((k &&& (31 : Int32)) &&& 0x3f).toInt64)))), .second, .val (.int (0 : Int32))] [])) _
        refine XS.dload X0.here hx rfl (hb hby at_89) rfl ?_
        show Steps p.tables e below (s₁.setTop (mkF m 91 #[.val (.int a), .val (.int k), .val (.int (k &&& (31 : Int32))), .val (.long ((1 : Int64) <<< ((k &&& (31 : Int32)) &&& 0x3f).toInt64)), .second, .val (.int (0 : Int32)), .val (.double (FP.ddiv (FP.i2d a) (FP.l2d ((1 : Int64) <<< ((k &&& (31 : Int32)) &&& 0x3f).toInt64)))), .second, .val (.int (0 : Int32))] [(.double (FP.ddiv (FP.i2d a) (FP.l2d ((1 : Int64) <<< ((k &&& (31 : Int32)) &&& 0x3f).toInt64))))])) _
        exact hh)
      obtain ⟨_, _, ⟨T29, L30, k_31, n_32⟩, -, X33, ⟨Lc34, hQ35, l_36, y_37, z_38⟩, st39⟩ := Jvm.LawKit.callS X0 hx (y := (⟨"com/example/flueline/flueline/Method19", "isPossibleCarbonDioxide", "(D)Z"⟩ : MethodName)) hown (mvT hZ (wT hw 0 rfl)) (mvT hZ (wT hw 1 rfl)) (mvT hZ (wT hw 2 rfl)) (mvT hZ (wT hw 3 rfl)) (by decide) (backOf (W := 0) (rmA l Z a0 hw [] (FP.ddiv (FP.i2d a) (FP.l2d ((1 : Int64) <<< ((k &&& (31 : Int32)) &&& 0x3f).toInt64))) h0 n0 Z0) hZ (wT hw 3 rfl) (wT hw 2 rfl) (by decide) (by decide)) (g := (mkF m 91 #[.val (.int a), .val (.int k), .val (.int (k &&& (31 : Int32))), .val (.long ((1 : Int64) <<< ((k &&& (31 : Int32)) &&& 0x3f).toInt64)), .second, .val (.int (0 : Int32)), .val (.double (FP.ddiv (FP.i2d a) (FP.l2d ((1 : Int64) <<< ((k &&& (31 : Int32)) &&& 0x3f).toInt64)))), .second, .val (.int (0 : Int32))] [(.double (FP.ddiv (FP.i2d a) (FP.l2d ((1 : Int64) <<< ((k &&& (31 : Int32)) &&& 0x3f).toInt64))))])) rfl (by rw [hml]; rfl) (argsL := [(.double (FP.ddiv (FP.i2d a) (FP.l2d ((1 : Int64) <<< ((k &&& (31 : Int32)) &&& 0x3f).toInt64))))]) (rest := []) (lenOf own_h14 rfl) rfl (by show 2 * 0 + _ ≤ _; exact Nat.le_of_eq rfl) (hb hby at_91) (fun _ _ => ⟨rfl, e0, (by decide : 0 + 0 ≤ _), (by decide : 0 + 0 ≤ _)⟩)
      dsimp only [Pt.U, Pt.locs, Pt.cells, Pt.slots] at X33 l_36 y_37 z_38 st39 hQ35
      subst l_36 y_37 z_38
      obtain ⟨rfl, N40, e41⟩ := hQ35
      have N42 := Fr.app N0 N40
      have k11 : own_K p e below (T29.setTop (mkF m 94 #[.val (.int a), .val (.int k), .val (.int (k &&& (31 : Int32))), .val (.long ((1 : Int64) <<< ((k &&& (31 : Int32)) &&& 0x3f).toInt64)), .second, .val (.int (0 : Int32)), .val (.double (FP.ddiv (FP.i2d a) (FP.l2d ((1 : Int64) <<< ((k &&& (31 : Int32)) &&& 0x3f).toInt64)))), .second, .val (.int (0 : Int32))] [(.int (own_co2 (FP.ddiv (FP.i2d a) (FP.l2d ((1 : Int64) <<< ((k &&& (31 : Int32)) &&& 0x3f).toInt64)))))])) (s₁.setTop (entryFrame m #[(.int a), (.int k)] maxLocals)) := fun t hh => k10 t (st39 t hh)
      have k12 : own_K p e below (T29.setTop (mkF m 104 #[.val (.int a), .val (.int k), .val (.int (k &&& (31 : Int32))), .val (.long ((1 : Int64) <<< ((k &&& (31 : Int32)) &&& 0x3f).toInt64)), .second, .val (.int (0 : Int32)), .val (.double (FP.ddiv (FP.i2d a) (FP.l2d ((1 : Int64) <<< ((k &&& (31 : Int32)) &&& 0x3f).toInt64)))), .second, .val (.int (0 : Int32))] [(.int (1 : Int32))])) (s₁.setTop (entryFrame m #[(.int a), (.int k)] maxLocals)) := fun t hh => k11 t (by
        refine XS.iload X33.here hx rfl (hb hby at_94) rfl ?_
        show Steps p.tables e below (T29.setTop (mkF m 96 #[.val (.int a), .val (.int k), .val (.int (k &&& (31 : Int32))), .val (.long ((1 : Int64) <<< ((k &&& (31 : Int32)) &&& 0x3f).toInt64)), .second, .val (.int (0 : Int32)), .val (.double (FP.ddiv (FP.i2d a) (FP.l2d ((1 : Int64) <<< ((k &&& (31 : Int32)) &&& 0x3f).toInt64)))), .second, .val (.int (0 : Int32))] [(.int (0 : Int32)), (.int (own_co2 (FP.ddiv (FP.i2d a) (FP.l2d ((1 : Int64) <<< ((k &&& (31 : Int32)) &&& 0x3f).toInt64)))))])) _
        refine XS.icmpNo X33.here hx rfl (hb hby at_96) rfl (own_icF_ne (own_dn0 a k (fun q => absurd q c68))) ?_
        show Steps p.tables e below (T29.setTop (mkF m 99 #[.val (.int a), .val (.int k), .val (.int (k &&& (31 : Int32))), .val (.long ((1 : Int64) <<< ((k &&& (31 : Int32)) &&& 0x3f).toInt64)), .second, .val (.int (0 : Int32)), .val (.double (FP.ddiv (FP.i2d a) (FP.l2d ((1 : Int64) <<< ((k &&& (31 : Int32)) &&& 0x3f).toInt64)))), .second, .val (.int (0 : Int32))] [])) _
        refine XS.iconst X33.here hx rfl (hb hby at_99) ?_
        show Steps p.tables e below (T29.setTop (mkF m 100 #[.val (.int a), .val (.int k), .val (.int (k &&& (31 : Int32))), .val (.long ((1 : Int64) <<< ((k &&& (31 : Int32)) &&& 0x3f).toInt64)), .second, .val (.int (0 : Int32)), .val (.double (FP.ddiv (FP.i2d a) (FP.l2d ((1 : Int64) <<< ((k &&& (31 : Int32)) &&& 0x3f).toInt64)))), .second, .val (.int (0 : Int32))] [(.int (1 : Int32))])) _
        refine XS.goto X33.here hx rfl (pc0 := 100) (pc' := 104) rfl (hb hby at_100) (by decide) (by decide) ?_
        show Steps p.tables e below (T29.setTop (mkF m 104 #[.val (.int a), .val (.int k), .val (.int (k &&& (31 : Int32))), .val (.long ((1 : Int64) <<< ((k &&& (31 : Int32)) &&& 0x3f).toInt64)), .second, .val (.int (0 : Int32)), .val (.double (FP.ddiv (FP.i2d a) (FP.l2d ((1 : Int64) <<< ((k &&& (31 : Int32)) &&& 0x3f).toInt64)))), .second, .val (.int (0 : Int32))] [(.int (1 : Int32))])) _
        exact hh)
      obtain ⟨fs, hr, hrun, hended, hW, hsame⟩ := X33.leave (v := some (.int (1 : Int32))) (fun h => by rw [Bd.returns] at h; cases h)
      refine ⟨_, _, k12 _ (retN X33 hx (t := .boolean) Bd.returns (by simp) (hb hby at_104) hr), hrun, hended, _, _, rfl, ?_, ⟨_, rfl⟩, hW, hsame.mono (by decide) (by decide)⟩
      show QL h0 n0 _ T29.heap _
      rw [e41]
      exact ⟨rfl, N42⟩
  ·
    have k13 : own_K p e below (s₁.setTop (mkF m 36 #[.val (.int a), .val (.int k), .val (.int (k &&& (31 : Int32))), .val (.long ((1 : Int64) <<< ((k &&& (31 : Int32)) &&& 0x3f).toInt64)), .second, .val (.int (1 : Int32)), .val (.double (FP.dmul (FP.i2d a) (FP.l2d ((1 : Int64) <<< ((k &&& (31 : Int32)) &&& 0x3f).toInt64)))), .second, .unset] [(.int a)])) (s₁.setTop (entryFrame m #[(.int a), (.int k)] maxLocals)) := fun t hh => k1 t (by
      refine XS.ifNo X0.here hx rfl (hb hby at_13) rfl (own_ifF_eq c13) ?_
      show Steps p.tables e below (s₁.setTop (mkF m 16 #[.val (.int a), .val (.int k), .val (.int (k &&& (31 : Int32))), .val (.long ((1 : Int64) <<< ((k &&& (31 : Int32)) &&& 0x3f).toInt64)), .second, .unset, .unset, .unset, .unset] [])) _
      refine XS.iconst X0.here hx rfl (hb hby at_16) ?_
      show Steps p.tables e below (s₁.setTop (mkF m 17 #[.val (.int a), .val (.int k), .val (.int (k &&& (31 : Int32))), .val (.long ((1 : Int64) <<< ((k &&& (31 : Int32)) &&& 0x3f).toInt64)), .second, .unset, .unset, .unset, .unset] [(.int (1 : Int32))])) _
      refine XS.goto X0.here hx rfl (pc0 := 17) (pc' := 21) rfl (hb hby at_17) (by decide) (by decide) ?_
      show Steps p.tables e below (s₁.setTop (mkF m 21 #[.val (.int a), .val (.int k), .val (.int (k &&& (31 : Int32))), .val (.long ((1 : Int64) <<< ((k &&& (31 : Int32)) &&& 0x3f).toInt64)), .second, .unset, .unset, .unset, .unset] [(.int (1 : Int32))])) _
      refine XS.istore X0.here hx rfl (hb hby at_21) rfl (l' := #[.val (.int a), .val (.int k), .val (.int (k &&& (31 : Int32))), .val (.long ((1 : Int64) <<< ((k &&& (31 : Int32)) &&& 0x3f).toInt64)), .second, .val (.int (1 : Int32)), .unset, .unset, .unset]) rfl ?_
      show Steps p.tables e below (s₁.setTop (mkF m 23 #[.val (.int a), .val (.int k), .val (.int (k &&& (31 : Int32))), .val (.long ((1 : Int64) <<< ((k &&& (31 : Int32)) &&& 0x3f).toInt64)), .second, .val (.int (1 : Int32)), .unset, .unset, .unset] [])) _
      refine XS.iload X0.here hx rfl (hb hby at_23) rfl ?_
      show Steps p.tables e below (s₁.setTop (mkF m 25 #[.val (.int a), .val (.int k), .val (.int (k &&& (31 : Int32))), .val (.long ((1 : Int64) <<< ((k &&& (31 : Int32)) &&& 0x3f).toInt64)), .second, .val (.int (1 : Int32)), .unset, .unset, .unset] [(.int (1 : Int32))])) _
      refine XS.ifNo X0.here hx rfl (hb hby at_25) rfl (by decide) ?_
      show Steps p.tables e below (s₁.setTop (mkF m 28 #[.val (.int a), .val (.int k), .val (.int (k &&& (31 : Int32))), .val (.long ((1 : Int64) <<< ((k &&& (31 : Int32)) &&& 0x3f).toInt64)), .second, .val (.int (1 : Int32)), .unset, .unset, .unset] [])) _
      refine XS.iloadN X0.here hx rfl (hb hby at_28) rfl ?_
      show Steps p.tables e below (s₁.setTop (mkF m 29 #[.val (.int a), .val (.int k), .val (.int (k &&& (31 : Int32))), .val (.long ((1 : Int64) <<< ((k &&& (31 : Int32)) &&& 0x3f).toInt64)), .second, .val (.int (1 : Int32)), .unset, .unset, .unset] [(.int a)])) _
      refine XS.i2dS X0.here hx rfl (hb hby at_29) rfl rfl ?_
      show Steps p.tables e below (s₁.setTop (mkF m 30 #[.val (.int a), .val (.int k), .val (.int (k &&& (31 : Int32))), .val (.long ((1 : Int64) <<< ((k &&& (31 : Int32)) &&& 0x3f).toInt64)), .second, .val (.int (1 : Int32)), .unset, .unset, .unset] [(.double (FP.i2d a))])) _
      refine XS.lloadN X0.here hx rfl (hb hby at_30) rfl ?_
      show Steps p.tables e below (s₁.setTop (mkF m 31 #[.val (.int a), .val (.int k), .val (.int (k &&& (31 : Int32))), .val (.long ((1 : Int64) <<< ((k &&& (31 : Int32)) &&& 0x3f).toInt64)), .second, .val (.int (1 : Int32)), .unset, .unset, .unset] [(.long ((1 : Int64) <<< ((k &&& (31 : Int32)) &&& 0x3f).toInt64)), (.double (FP.i2d a))])) _
      refine XS.l2dS X0.here hx rfl (hb hby at_31) rfl rfl ?_
      show Steps p.tables e below (s₁.setTop (mkF m 32 #[.val (.int a), .val (.int k), .val (.int (k &&& (31 : Int32))), .val (.long ((1 : Int64) <<< ((k &&& (31 : Int32)) &&& 0x3f).toInt64)), .second, .val (.int (1 : Int32)), .unset, .unset, .unset] [(.double (FP.l2d ((1 : Int64) <<< ((k &&& (31 : Int32)) &&& 0x3f).toInt64))), (.double (FP.i2d a))])) _
      refine XS.dmulS X0.here hx rfl (hb hby at_32) rfl (own_mul_no a k) rfl ?_
      show Steps p.tables e below (s₁.setTop (mkF m 33 #[.val (.int a), .val (.int k), .val (.int (k &&& (31 : Int32))), .val (.long ((1 : Int64) <<< ((k &&& (31 : Int32)) &&& 0x3f).toInt64)), .second, .val (.int (1 : Int32)), .unset, .unset, .unset] [(.double (FP.dmul (FP.i2d a) (FP.l2d ((1 : Int64) <<< ((k &&& (31 : Int32)) &&& 0x3f).toInt64))))])) _
      refine XS.dstore X0.here hx rfl (hb hby at_33) rfl (l' := #[.val (.int a), .val (.int k), .val (.int (k &&& (31 : Int32))), .val (.long ((1 : Int64) <<< ((k &&& (31 : Int32)) &&& 0x3f).toInt64)), .second, .val (.int (1 : Int32)), .val (.double (FP.dmul (FP.i2d a) (FP.l2d ((1 : Int64) <<< ((k &&& (31 : Int32)) &&& 0x3f).toInt64)))), .second, .unset]) rfl ?_
      show Steps p.tables e below (s₁.setTop (mkF m 35 #[.val (.int a), .val (.int k), .val (.int (k &&& (31 : Int32))), .val (.long ((1 : Int64) <<< ((k &&& (31 : Int32)) &&& 0x3f).toInt64)), .second, .val (.int (1 : Int32)), .val (.double (FP.dmul (FP.i2d a) (FP.l2d ((1 : Int64) <<< ((k &&& (31 : Int32)) &&& 0x3f).toInt64)))), .second, .unset] [])) _
      refine XS.iloadN X0.here hx rfl (hb hby at_35) rfl ?_
      show Steps p.tables e below (s₁.setTop (mkF m 36 #[.val (.int a), .val (.int k), .val (.int (k &&& (31 : Int32))), .val (.long ((1 : Int64) <<< ((k &&& (31 : Int32)) &&& 0x3f).toInt64)), .second, .val (.int (1 : Int32)), .val (.double (FP.dmul (FP.i2d a) (FP.l2d ((1 : Int64) <<< ((k &&& (31 : Int32)) &&& 0x3f).toInt64)))), .second, .unset] [(.int a)])) _
      exact hh)
    by_cases c36 : 0 < a
    ·
      have k14 : own_K p e below (s₁.setTop (mkF m 47 #[.val (.int a), .val (.int k), .val (.int (k &&& (31 : Int32))), .val (.long ((1 : Int64) <<< ((k &&& (31 : Int32)) &&& 0x3f).toInt64)), .second, .val (.int (1 : Int32)), .val (.double (FP.dmul (FP.i2d a) (FP.l2d ((1 : Int64) <<< ((k &&& (31 : Int32)) &&& 0x3f).toInt64)))), .second, .unset] [(.int (lcmpW ((a.toInt64) <<< ((k &&& (31 : Int32)) &&& 0x3f).toInt64) (100 : Int64)))])) (s₁.setTop (entryFrame m #[(.int a), (.int k)] maxLocals)) := fun t hh => k13 t (by
        refine XS.ifNo X0.here hx rfl (hb hby at_36) rfl (own_ifF_le c36) ?_
        show Steps p.tables e below (s₁.setTop (mkF m 39 #[.val (.int a), .val (.int k), .val (.int (k &&& (31 : Int32))), .val (.long ((1 : Int64) <<< ((k &&& (31 : Int32)) &&& 0x3f).toInt64)), .second, .val (.int (1 : Int32)), .val (.double (FP.dmul (FP.i2d a) (FP.l2d ((1 : Int64) <<< ((k &&& (31 : Int32)) &&& 0x3f).toInt64)))), .second, .unset] [])) _
        refine XS.iloadN X0.here hx rfl (hb hby at_39) rfl ?_
        show Steps p.tables e below (s₁.setTop (mkF m 40 #[.val (.int a), .val (.int k), .val (.int (k &&& (31 : Int32))), .val (.long ((1 : Int64) <<< ((k &&& (31 : Int32)) &&& 0x3f).toInt64)), .second, .val (.int (1 : Int32)), .val (.double (FP.dmul (FP.i2d a) (FP.l2d ((1 : Int64) <<< ((k &&& (31 : Int32)) &&& 0x3f).toInt64)))), .second, .unset] [(.int a)])) _
        refine XS.i2l X0.here hx rfl (hb hby at_40) rfl ?_
        show Steps p.tables e below (s₁.setTop (mkF m 41 #[.val (.int a), .val (.int k), .val (.int (k &&& (31 : Int32))), .val (.long ((1 : Int64) <<< ((k &&& (31 : Int32)) &&& 0x3f).toInt64)), .second, .val (.int (1 : Int32)), .val (.double (FP.dmul (FP.i2d a) (FP.l2d ((1 : Int64) <<< ((k &&& (31 : Int32)) &&& 0x3f).toInt64)))), .second, .unset] [(.long (a.toInt64))])) _
        refine XS.iloadN X0.here hx rfl (hb hby at_41) rfl ?_
        show Steps p.tables e below (s₁.setTop (mkF m 42 #[.val (.int a), .val (.int k), .val (.int (k &&& (31 : Int32))), .val (.long ((1 : Int64) <<< ((k &&& (31 : Int32)) &&& 0x3f).toInt64)), .second, .val (.int (1 : Int32)), .val (.double (FP.dmul (FP.i2d a) (FP.l2d ((1 : Int64) <<< ((k &&& (31 : Int32)) &&& 0x3f).toInt64)))), .second, .unset] [(.int (k &&& (31 : Int32))), (.long (a.toInt64))])) _
        refine XS.lshl X0.here hx rfl (hb hby at_42) rfl ?_
        show Steps p.tables e below (s₁.setTop (mkF m 43 #[.val (.int a), .val (.int k), .val (.int (k &&& (31 : Int32))), .val (.long ((1 : Int64) <<< ((k &&& (31 : Int32)) &&& 0x3f).toInt64)), .second, .val (.int (1 : Int32)), .val (.double (FP.dmul (FP.i2d a) (FP.l2d ((1 : Int64) <<< ((k &&& (31 : Int32)) &&& 0x3f).toInt64)))), .second, .unset] [(.long ((a.toInt64) <<< ((k &&& (31 : Int32)) &&& 0x3f).toInt64))])) _
        refine X0.ldc2Long hx hown (mvT hZ (wT hw 4 rfl)) (g := (mkF m 43 #[.val (.int a), .val (.int k), .val (.int (k &&& (31 : Int32))), .val (.long ((1 : Int64) <<< ((k &&& (31 : Int32)) &&& 0x3f).toInt64)), .second, .val (.int (1 : Int32)), .val (.double (FP.dmul (FP.i2d a) (FP.l2d ((1 : Int64) <<< ((k &&& (31 : Int32)) &&& 0x3f).toInt64)))), .second, .unset] [(.long ((a.toInt64) <<< ((k &&& (31 : Int32)) &&& 0x3f).toInt64))])) rfl (hb hby at_43) _ ?_
        show Steps p.tables e below (s₁.setTop (mkF m 46 #[.val (.int a), .val (.int k), .val (.int (k &&& (31 : Int32))), .val (.long ((1 : Int64) <<< ((k &&& (31 : Int32)) &&& 0x3f).toInt64)), .second, .val (.int (1 : Int32)), .val (.double (FP.dmul (FP.i2d a) (FP.l2d ((1 : Int64) <<< ((k &&& (31 : Int32)) &&& 0x3f).toInt64)))), .second, .unset] [(.long (100 : Int64)), (.long ((a.toInt64) <<< ((k &&& (31 : Int32)) &&& 0x3f).toInt64))])) _
        refine XS.lcmp X0.here hx rfl (hb hby at_46) rfl ?_
        show Steps p.tables e below (s₁.setTop (mkF m 47 #[.val (.int a), .val (.int k), .val (.int (k &&& (31 : Int32))), .val (.long ((1 : Int64) <<< ((k &&& (31 : Int32)) &&& 0x3f).toInt64)), .second, .val (.int (1 : Int32)), .val (.double (FP.dmul (FP.i2d a) (FP.l2d ((1 : Int64) <<< ((k &&& (31 : Int32)) &&& 0x3f).toInt64)))), .second, .unset] [(.int (lcmpW ((a.toInt64) <<< ((k &&& (31 : Int32)) &&& 0x3f).toInt64) (100 : Int64)))])) _
        exact hh)
      by_cases c47 : (lcmpW ((a.toInt64) <<< ((k &&& (31 : Int32)) &&& 0x3f).toInt64) (100 : Int64)) < 0
      ·
        have k15 : own_K p e below (s₁.setTop (mkF m 91 #[.val (.int a), .val (.int k), .val (.int (k &&& (31 : Int32))), .val (.long ((1 : Int64) <<< ((k &&& (31 : Int32)) &&& 0x3f).toInt64)), .second, .val (.int (1 : Int32)), .val (.double (FP.dmul (FP.i2d a) (FP.l2d ((1 : Int64) <<< ((k &&& (31 : Int32)) &&& 0x3f).toInt64)))), .second, .val (.int (1 : Int32))] [(.double (FP.dmul (FP.i2d a) (FP.l2d ((1 : Int64) <<< ((k &&& (31 : Int32)) &&& 0x3f).toInt64))))])) (s₁.setTop (entryFrame m #[(.int a), (.int k)] maxLocals)) := fun t hh => k14 t (by
          refine XS.ifNo X0.here hx rfl (hb hby at_47) rfl (own_ifF_ge c47) ?_
          show Steps p.tables e below (s₁.setTop (mkF m 50 #[.val (.int a), .val (.int k), .val (.int (k &&& (31 : Int32))), .val (.long ((1 : Int64) <<< ((k &&& (31 : Int32)) &&& 0x3f).toInt64)), .second, .val (.int (1 : Int32)), .val (.double (FP.dmul (FP.i2d a) (FP.l2d ((1 : Int64) <<< ((k &&& (31 : Int32)) &&& 0x3f).toInt64)))), .second, .unset] [])) _
          refine XS.iconst X0.here hx rfl (hb hby at_50) ?_
          show Steps p.tables e below (s₁.setTop (mkF m 51 #[.val (.int a), .val (.int k), .val (.int (k &&& (31 : Int32))), .val (.long ((1 : Int64) <<< ((k &&& (31 : Int32)) &&& 0x3f).toInt64)), .second, .val (.int (1 : Int32)), .val (.double (FP.dmul (FP.i2d a) (FP.l2d ((1 : Int64) <<< ((k &&& (31 : Int32)) &&& 0x3f).toInt64)))), .second, .unset] [(.int (1 : Int32))])) _
          refine XS.goto X0.here hx rfl (pc0 := 51) (pc' := 55) rfl (hb hby at_51) (by decide) (by decide) ?_
          show Steps p.tables e below (s₁.setTop (mkF m 55 #[.val (.int a), .val (.int k), .val (.int (k &&& (31 : Int32))), .val (.long ((1 : Int64) <<< ((k &&& (31 : Int32)) &&& 0x3f).toInt64)), .second, .val (.int (1 : Int32)), .val (.double (FP.dmul (FP.i2d a) (FP.l2d ((1 : Int64) <<< ((k &&& (31 : Int32)) &&& 0x3f).toInt64)))), .second, .unset] [(.int (1 : Int32))])) _
          refine XS.istore X0.here hx rfl (hb hby at_55) rfl (l' := #[.val (.int a), .val (.int k), .val (.int (k &&& (31 : Int32))), .val (.long ((1 : Int64) <<< ((k &&& (31 : Int32)) &&& 0x3f).toInt64)), .second, .val (.int (1 : Int32)), .val (.double (FP.dmul (FP.i2d a) (FP.l2d ((1 : Int64) <<< ((k &&& (31 : Int32)) &&& 0x3f).toInt64)))), .second, .val (.int (1 : Int32))]) rfl ?_
          show Steps p.tables e below (s₁.setTop (mkF m 57 #[.val (.int a), .val (.int k), .val (.int (k &&& (31 : Int32))), .val (.long ((1 : Int64) <<< ((k &&& (31 : Int32)) &&& 0x3f).toInt64)), .second, .val (.int (1 : Int32)), .val (.double (FP.dmul (FP.i2d a) (FP.l2d ((1 : Int64) <<< ((k &&& (31 : Int32)) &&& 0x3f).toInt64)))), .second, .val (.int (1 : Int32))] [])) _
          refine XS.goto X0.here hx rfl (pc0 := 57) (pc' := 89) rfl (hb hby at_57) (by decide) (by decide) ?_
          show Steps p.tables e below (s₁.setTop (mkF m 89 #[.val (.int a), .val (.int k), .val (.int (k &&& (31 : Int32))), .val (.long ((1 : Int64) <<< ((k &&& (31 : Int32)) &&& 0x3f).toInt64)), .second, .val (.int (1 : Int32)), .val (.double (FP.dmul (FP.i2d a) (FP.l2d ((1 : Int64) <<< ((k &&& (31 : Int32)) &&& 0x3f).toInt64)))), .second, .val (.int (1 : Int32))] [])) _
          refine XS.dload X0.here hx rfl (hb hby at_89) rfl ?_
          show Steps p.tables e below (s₁.setTop (mkF m 91 #[.val (.int a), .val (.int k), .val (.int (k &&& (31 : Int32))), .val (.long ((1 : Int64) <<< ((k &&& (31 : Int32)) &&& 0x3f).toInt64)), .second, .val (.int (1 : Int32)), .val (.double (FP.dmul (FP.i2d a) (FP.l2d ((1 : Int64) <<< ((k &&& (31 : Int32)) &&& 0x3f).toInt64)))), .second, .val (.int (1 : Int32))] [(.double (FP.dmul (FP.i2d a) (FP.l2d ((1 : Int64) <<< ((k &&& (31 : Int32)) &&& 0x3f).toInt64))))])) _
          exact hh)
        obtain ⟨_, _, ⟨T43, L44, k_45, n_46⟩, -, X47, ⟨Lc48, hQ49, l_50, y_51, z_52⟩, st53⟩ := Jvm.LawKit.callS X0 hx (y := (⟨"com/example/flueline/flueline/Method19", "isPossibleCarbonDioxide", "(D)Z"⟩ : MethodName)) hown (mvT hZ (wT hw 0 rfl)) (mvT hZ (wT hw 1 rfl)) (mvT hZ (wT hw 2 rfl)) (mvT hZ (wT hw 3 rfl)) (by decide) (backOf (W := 0) (rmA l Z a0 hw [] (FP.dmul (FP.i2d a) (FP.l2d ((1 : Int64) <<< ((k &&& (31 : Int32)) &&& 0x3f).toInt64))) h0 n0 Z0) hZ (wT hw 3 rfl) (wT hw 2 rfl) (by decide) (by decide)) (g := (mkF m 91 #[.val (.int a), .val (.int k), .val (.int (k &&& (31 : Int32))), .val (.long ((1 : Int64) <<< ((k &&& (31 : Int32)) &&& 0x3f).toInt64)), .second, .val (.int (1 : Int32)), .val (.double (FP.dmul (FP.i2d a) (FP.l2d ((1 : Int64) <<< ((k &&& (31 : Int32)) &&& 0x3f).toInt64)))), .second, .val (.int (1 : Int32))] [(.double (FP.dmul (FP.i2d a) (FP.l2d ((1 : Int64) <<< ((k &&& (31 : Int32)) &&& 0x3f).toInt64))))])) rfl (by rw [hml]; rfl) (argsL := [(.double (FP.dmul (FP.i2d a) (FP.l2d ((1 : Int64) <<< ((k &&& (31 : Int32)) &&& 0x3f).toInt64))))]) (rest := []) (lenOf own_h14 rfl) rfl (by show 2 * 0 + _ ≤ _; exact Nat.le_of_eq rfl) (hb hby at_91) (fun _ _ => ⟨rfl, e0, (by decide : 0 + 0 ≤ _), (by decide : 0 + 0 ≤ _)⟩)
        dsimp only [Pt.U, Pt.locs, Pt.cells, Pt.slots] at X47 l_50 y_51 z_52 st53 hQ49
        subst l_50 y_51 z_52
        obtain ⟨rfl, N54, e55⟩ := hQ49
        have N56 := Fr.app N0 N54
        have k16 : own_K p e below (T43.setTop (mkF m 94 #[.val (.int a), .val (.int k), .val (.int (k &&& (31 : Int32))), .val (.long ((1 : Int64) <<< ((k &&& (31 : Int32)) &&& 0x3f).toInt64)), .second, .val (.int (1 : Int32)), .val (.double (FP.dmul (FP.i2d a) (FP.l2d ((1 : Int64) <<< ((k &&& (31 : Int32)) &&& 0x3f).toInt64)))), .second, .val (.int (1 : Int32))] [(.int (own_co2 (FP.dmul (FP.i2d a) (FP.l2d ((1 : Int64) <<< ((k &&& (31 : Int32)) &&& 0x3f).toInt64)))))])) (s₁.setTop (entryFrame m #[(.int a), (.int k)] maxLocals)) := fun t hh => k15 t (st53 t hh)
        have k17 : own_K p e below (T43.setTop (mkF m 104 #[.val (.int a), .val (.int k), .val (.int (k &&& (31 : Int32))), .val (.long ((1 : Int64) <<< ((k &&& (31 : Int32)) &&& 0x3f).toInt64)), .second, .val (.int (1 : Int32)), .val (.double (FP.dmul (FP.i2d a) (FP.l2d ((1 : Int64) <<< ((k &&& (31 : Int32)) &&& 0x3f).toInt64)))), .second, .val (.int (1 : Int32))] [(.int (1 : Int32))])) (s₁.setTop (entryFrame m #[(.int a), (.int k)] maxLocals)) := fun t hh => k16 t (by
          refine XS.iload X47.here hx rfl (hb hby at_94) rfl ?_
          show Steps p.tables e below (T43.setTop (mkF m 96 #[.val (.int a), .val (.int k), .val (.int (k &&& (31 : Int32))), .val (.long ((1 : Int64) <<< ((k &&& (31 : Int32)) &&& 0x3f).toInt64)), .second, .val (.int (1 : Int32)), .val (.double (FP.dmul (FP.i2d a) (FP.l2d ((1 : Int64) <<< ((k &&& (31 : Int32)) &&& 0x3f).toInt64)))), .second, .val (.int (1 : Int32))] [(.int (1 : Int32)), (.int (own_co2 (FP.dmul (FP.i2d a) (FP.l2d ((1 : Int64) <<< ((k &&& (31 : Int32)) &&& 0x3f).toInt64)))))])) _
          refine XS.icmpNo X47.here hx rfl (hb hby at_96) rfl (own_icF_ne (own_up1 a k c36 c47)) ?_
          show Steps p.tables e below (T43.setTop (mkF m 99 #[.val (.int a), .val (.int k), .val (.int (k &&& (31 : Int32))), .val (.long ((1 : Int64) <<< ((k &&& (31 : Int32)) &&& 0x3f).toInt64)), .second, .val (.int (1 : Int32)), .val (.double (FP.dmul (FP.i2d a) (FP.l2d ((1 : Int64) <<< ((k &&& (31 : Int32)) &&& 0x3f).toInt64)))), .second, .val (.int (1 : Int32))] [])) _
          refine XS.iconst X47.here hx rfl (hb hby at_99) ?_
          show Steps p.tables e below (T43.setTop (mkF m 100 #[.val (.int a), .val (.int k), .val (.int (k &&& (31 : Int32))), .val (.long ((1 : Int64) <<< ((k &&& (31 : Int32)) &&& 0x3f).toInt64)), .second, .val (.int (1 : Int32)), .val (.double (FP.dmul (FP.i2d a) (FP.l2d ((1 : Int64) <<< ((k &&& (31 : Int32)) &&& 0x3f).toInt64)))), .second, .val (.int (1 : Int32))] [(.int (1 : Int32))])) _
          refine XS.goto X47.here hx rfl (pc0 := 100) (pc' := 104) rfl (hb hby at_100) (by decide) (by decide) ?_
          show Steps p.tables e below (T43.setTop (mkF m 104 #[.val (.int a), .val (.int k), .val (.int (k &&& (31 : Int32))), .val (.long ((1 : Int64) <<< ((k &&& (31 : Int32)) &&& 0x3f).toInt64)), .second, .val (.int (1 : Int32)), .val (.double (FP.dmul (FP.i2d a) (FP.l2d ((1 : Int64) <<< ((k &&& (31 : Int32)) &&& 0x3f).toInt64)))), .second, .val (.int (1 : Int32))] [(.int (1 : Int32))])) _
          exact hh)
        obtain ⟨fs, hr, hrun, hended, hW, hsame⟩ := X47.leave (v := some (.int (1 : Int32))) (fun h => by rw [Bd.returns] at h; cases h)
        refine ⟨_, _, k17 _ (retN X47 hx (t := .boolean) Bd.returns (by simp) (hb hby at_104) hr), hrun, hended, _, _, rfl, ?_, ⟨_, rfl⟩, hW, hsame.mono (by decide) (by decide)⟩
        show QL h0 n0 _ T43.heap _
        rw [e55]
        exact ⟨rfl, N56⟩
      ·
        have k18 : own_K p e below (s₁.setTop (mkF m 91 #[.val (.int a), .val (.int k), .val (.int (k &&& (31 : Int32))), .val (.long ((1 : Int64) <<< ((k &&& (31 : Int32)) &&& 0x3f).toInt64)), .second, .val (.int (1 : Int32)), .val (.double (FP.dmul (FP.i2d a) (FP.l2d ((1 : Int64) <<< ((k &&& (31 : Int32)) &&& 0x3f).toInt64)))), .second, .val (.int (0 : Int32))] [(.double (FP.dmul (FP.i2d a) (FP.l2d ((1 : Int64) <<< ((k &&& (31 : Int32)) &&& 0x3f).toInt64))))])) (s₁.setTop (entryFrame m #[(.int a), (.int k)] maxLocals)) := fun t hh => k14 t (by
          refine XS.ifYes X0.here hx rfl (pc0 := 47) (pc' := 54) rfl (hb hby at_47) rfl (own_ifT_ge c47) (by decide) (by decide) ?_
          show Steps p.tables e below (s₁.setTop (mkF m 54 #[.val (.int a), .val (.int k), .val (.int (k &&& (31 : Int32))), .val (.long ((1 : Int64) <<< ((k &&& (31 : Int32)) &&& 0x3f).toInt64)), .second, .val (.int (1 : Int32)), .val (.double (FP.dmul (FP.i2d a) (FP.l2d ((1 : Int64) <<< ((k &&& (31 : Int32)) &&& 0x3f).toInt64)))), .second, .unset] [])) _
          refine XS.iconst X0.here hx rfl (hb hby at_54) ?_
          show Steps p.tables e below (s₁.setTop (mkF m 55 #[.val (.int a), .val (.int k), .val (.int (k &&& (31 : Int32))), .val (.long ((1 : Int64) <<< ((k &&& (31 : Int32)) &&& 0x3f).toInt64)), .second, .val (.int (1 : Int32)), .val (.double (FP.dmul (FP.i2d a) (FP.l2d ((1 : Int64) <<< ((k &&& (31 : Int32)) &&& 0x3f).toInt64)))), .second, .unset] [(.int (0 : Int32))])) _
          refine XS.istore X0.here hx rfl (hb hby at_55) rfl (l' := #[.val (.int a), .val (.int k), .val (.int (k &&& (31 : Int32))), .val (.long ((1 : Int64) <<< ((k &&& (31 : Int32)) &&& 0x3f).toInt64)), .second, .val (.int (1 : Int32)), .val (.double (FP.dmul (FP.i2d a) (FP.l2d ((1 : Int64) <<< ((k &&& (31 : Int32)) &&& 0x3f).toInt64)))), .second, .val (.int (0 : Int32))]) rfl ?_
          show Steps p.tables e below (s₁.setTop (mkF m 57 #[.val (.int a), .val (.int k), .val (.int (k &&& (31 : Int32))), .val (.long ((1 : Int64) <<< ((k &&& (31 : Int32)) &&& 0x3f).toInt64)), .second, .val (.int (1 : Int32)), .val (.double (FP.dmul (FP.i2d a) (FP.l2d ((1 : Int64) <<< ((k &&& (31 : Int32)) &&& 0x3f).toInt64)))), .second, .val (.int (0 : Int32))] [])) _
          refine XS.goto X0.here hx rfl (pc0 := 57) (pc' := 89) rfl (hb hby at_57) (by decide) (by decide) ?_
          show Steps p.tables e below (s₁.setTop (mkF m 89 #[.val (.int a), .val (.int k), .val (.int (k &&& (31 : Int32))), .val (.long ((1 : Int64) <<< ((k &&& (31 : Int32)) &&& 0x3f).toInt64)), .second, .val (.int (1 : Int32)), .val (.double (FP.dmul (FP.i2d a) (FP.l2d ((1 : Int64) <<< ((k &&& (31 : Int32)) &&& 0x3f).toInt64)))), .second, .val (.int (0 : Int32))] [])) _
          refine XS.dload X0.here hx rfl (hb hby at_89) rfl ?_
          show Steps p.tables e below (s₁.setTop (mkF m 91 #[.val (.int a), .val (.int k), .val (.int (k &&& (31 : Int32))), .val (.long ((1 : Int64) <<< ((k &&& (31 : Int32)) &&& 0x3f).toInt64)), .second, .val (.int (1 : Int32)), .val (.double (FP.dmul (FP.i2d a) (FP.l2d ((1 : Int64) <<< ((k &&& (31 : Int32)) &&& 0x3f).toInt64)))), .second, .val (.int (0 : Int32))] [(.double (FP.dmul (FP.i2d a) (FP.l2d ((1 : Int64) <<< ((k &&& (31 : Int32)) &&& 0x3f).toInt64))))])) _
          exact hh)
        obtain ⟨_, _, ⟨T57, L58, k_59, n_60⟩, -, X61, ⟨Lc62, hQ63, l_64, y_65, z_66⟩, st67⟩ := Jvm.LawKit.callS X0 hx (y := (⟨"com/example/flueline/flueline/Method19", "isPossibleCarbonDioxide", "(D)Z"⟩ : MethodName)) hown (mvT hZ (wT hw 0 rfl)) (mvT hZ (wT hw 1 rfl)) (mvT hZ (wT hw 2 rfl)) (mvT hZ (wT hw 3 rfl)) (by decide) (backOf (W := 0) (rmA l Z a0 hw [] (FP.dmul (FP.i2d a) (FP.l2d ((1 : Int64) <<< ((k &&& (31 : Int32)) &&& 0x3f).toInt64))) h0 n0 Z0) hZ (wT hw 3 rfl) (wT hw 2 rfl) (by decide) (by decide)) (g := (mkF m 91 #[.val (.int a), .val (.int k), .val (.int (k &&& (31 : Int32))), .val (.long ((1 : Int64) <<< ((k &&& (31 : Int32)) &&& 0x3f).toInt64)), .second, .val (.int (1 : Int32)), .val (.double (FP.dmul (FP.i2d a) (FP.l2d ((1 : Int64) <<< ((k &&& (31 : Int32)) &&& 0x3f).toInt64)))), .second, .val (.int (0 : Int32))] [(.double (FP.dmul (FP.i2d a) (FP.l2d ((1 : Int64) <<< ((k &&& (31 : Int32)) &&& 0x3f).toInt64))))])) rfl (by rw [hml]; rfl) (argsL := [(.double (FP.dmul (FP.i2d a) (FP.l2d ((1 : Int64) <<< ((k &&& (31 : Int32)) &&& 0x3f).toInt64))))]) (rest := []) (lenOf own_h14 rfl) rfl (by show 2 * 0 + _ ≤ _; exact Nat.le_of_eq rfl) (hb hby at_91) (fun _ _ => ⟨rfl, e0, (by decide : 0 + 0 ≤ _), (by decide : 0 + 0 ≤ _)⟩)
        dsimp only [Pt.U, Pt.locs, Pt.cells, Pt.slots] at X61 l_64 y_65 z_66 st67 hQ63
        subst l_64 y_65 z_66
        obtain ⟨rfl, N68, e69⟩ := hQ63
        have N70 := Fr.app N0 N68
        have k19 : own_K p e below (T57.setTop (mkF m 94 #[.val (.int a), .val (.int k), .val (.int (k &&& (31 : Int32))), .val (.long ((1 : Int64) <<< ((k &&& (31 : Int32)) &&& 0x3f).toInt64)), .second, .val (.int (1 : Int32)), .val (.double (FP.dmul (FP.i2d a) (FP.l2d ((1 : Int64) <<< ((k &&& (31 : Int32)) &&& 0x3f).toInt64)))), .second, .val (.int (0 : Int32))] [(.int (own_co2 (FP.dmul (FP.i2d a) (FP.l2d ((1 : Int64) <<< ((k &&& (31 : Int32)) &&& 0x3f).toInt64)))))])) (s₁.setTop (entryFrame m #[(.int a), (.int k)] maxLocals)) := fun t hh => k18 t (st67 t hh)
        have k20 : own_K p e below (T57.setTop (mkF m 104 #[.val (.int a), .val (.int k), .val (.int (k &&& (31 : Int32))), .val (.long ((1 : Int64) <<< ((k &&& (31 : Int32)) &&& 0x3f).toInt64)), .second, .val (.int (1 : Int32)), .val (.double (FP.dmul (FP.i2d a) (FP.l2d ((1 : Int64) <<< ((k &&& (31 : Int32)) &&& 0x3f).toInt64)))), .second, .val (.int (0 : Int32))] [(.int (1 : Int32))])) (s₁.setTop (entryFrame m #[(.int a), (.int k)] maxLocals)) := fun t hh => k19 t (by
          refine XS.iload X61.here hx rfl (hb hby at_94) rfl ?_
          show Steps p.tables e below (T57.setTop (mkF m 96 #[.val (.int a), .val (.int k), .val (.int (k &&& (31 : Int32))), .val (.long ((1 : Int64) <<< ((k &&& (31 : Int32)) &&& 0x3f).toInt64)), .second, .val (.int (1 : Int32)), .val (.double (FP.dmul (FP.i2d a) (FP.l2d ((1 : Int64) <<< ((k &&& (31 : Int32)) &&& 0x3f).toInt64)))), .second, .val (.int (0 : Int32))] [(.int (0 : Int32)), (.int (own_co2 (FP.dmul (FP.i2d a) (FP.l2d ((1 : Int64) <<< ((k &&& (31 : Int32)) &&& 0x3f).toInt64)))))])) _
          refine XS.icmpNo X61.here hx rfl (hb hby at_96) rfl (own_icF_ne (own_up0 a k (fun _ => c47))) ?_
          show Steps p.tables e below (T57.setTop (mkF m 99 #[.val (.int a), .val (.int k), .val (.int (k &&& (31 : Int32))), .val (.long ((1 : Int64) <<< ((k &&& (31 : Int32)) &&& 0x3f).toInt64)), .second, .val (.int (1 : Int32)), .val (.double (FP.dmul (FP.i2d a) (FP.l2d ((1 : Int64) <<< ((k &&& (31 : Int32)) &&& 0x3f).toInt64)))), .second, .val (.int (0 : Int32))] [])) _
          refine XS.iconst X61.here hx rfl (hb hby at_99) ?_
          show Steps p.tables e below (T57.setTop (mkF m 100 #[.val (.int a), .val (.int k), .val (.int (k &&& (31 : Int32))), .val (.long ((1 : Int64) <<< ((k &&& (31 : Int32)) &&& 0x3f).toInt64)), .second, .val (.int (1 : Int32)), .val (.double (FP.dmul (FP.i2d a) (FP.l2d ((1 : Int64) <<< ((k &&& (31 : Int32)) &&& 0x3f).toInt64)))), .second, .val (.int (0 : Int32))] [(.int (1 : Int32))])) _
          refine XS.goto X61.here hx rfl (pc0 := 100) (pc' := 104) rfl (hb hby at_100) (by decide) (by decide) ?_
          show Steps p.tables e below (T57.setTop (mkF m 104 #[.val (.int a), .val (.int k), .val (.int (k &&& (31 : Int32))), .val (.long ((1 : Int64) <<< ((k &&& (31 : Int32)) &&& 0x3f).toInt64)), .second, .val (.int (1 : Int32)), .val (.double (FP.dmul (FP.i2d a) (FP.l2d ((1 : Int64) <<< ((k &&& (31 : Int32)) &&& 0x3f).toInt64)))), .second, .val (.int (0 : Int32))] [(.int (1 : Int32))])) _
          exact hh)
        obtain ⟨fs, hr, hrun, hended, hW, hsame⟩ := X61.leave (v := some (.int (1 : Int32))) (fun h => by rw [Bd.returns] at h; cases h)
        refine ⟨_, _, k20 _ (retN X61 hx (t := .boolean) Bd.returns (by simp) (hb hby at_104) hr), hrun, hended, _, _, rfl, ?_, ⟨_, rfl⟩, hW, hsame.mono (by decide) (by decide)⟩
        show QL h0 n0 _ T57.heap _
        rw [e69]
        exact ⟨rfl, N70⟩
    ·
      have k21 : own_K p e below (s₁.setTop (mkF m 91 #[.val (.int a), .val (.int k), .val (.int (k &&& (31 : Int32))), .val (.long ((1 : Int64) <<< ((k &&& (31 : Int32)) &&& 0x3f).toInt64)), .second, .val (.int (1 : Int32)), .val (.double (FP.dmul (FP.i2d a) (FP.l2d ((1 : Int64) <<< ((k &&& (31 : Int32)) &&& 0x3f).toInt64)))), .second, .val (.int (0 : Int32))] [(.double (FP.dmul (FP.i2d a) (FP.l2d ((1 : Int64) <<< ((k &&& (31 : Int32)) &&& 0x3f).toInt64))))])) (s₁.setTop (entryFrame m #[(.int a), (.int k)] maxLocals)) := fun t hh => k13 t (by
        refine XS.ifYes X0.here hx rfl (pc0 := 36) (pc' := 54) rfl (hb hby at_36) rfl (own_ifT_le c36) (by decide) (by decide) ?_
        show Steps p.tables e below (s₁.setTop (mkF m 54 #[.val (.int a), .val (.int k), .val (.int (k &&& (31 : Int32))), .val (.long ((1 : Int64) <<< ((k &&& (31 : Int32)) &&& 0x3f).toInt64)), .second, .val (.int (1 : Int32)), .val (.double (FP.dmul (FP.i2d a) (FP.l2d ((1 : Int64) <<< ((k &&& (31 : Int32)) &&& 0x3f).toInt64)))), .second, .unset] [])) _
        refine XS.iconst X0.here hx rfl (hb hby at_54) ?_
        show Steps p.tables e below (s₁.setTop (mkF m 55 #[.val (.int a), .val (.int k), .val (.int (k &&& (31 : Int32))), .val (.long ((1 : Int64) <<< ((k &&& (31 : Int32)) &&& 0x3f).toInt64)), .second, .val (.int (1 : Int32)), .val (.double (FP.dmul (FP.i2d a) (FP.l2d ((1 : Int64) <<< ((k &&& (31 : Int32)) &&& 0x3f).toInt64)))), .second, .unset] [(.int (0 : Int32))])) _
        refine XS.istore X0.here hx rfl (hb hby at_55) rfl (l' := #[.val (.int a), .val (.int k), .val (.int (k &&& (31 : Int32))), .val (.long ((1 : Int64) <<< ((k &&& (31 : Int32)) &&& 0x3f).toInt64)), .second, .val (.int (1 : Int32)), .val (.double (FP.dmul (FP.i2d a) (FP.l2d ((1 : Int64) <<< ((k &&& (31 : Int32)) &&& 0x3f).toInt64)))), .second, .val (.int (0 : Int32))]) rfl ?_
        show Steps p.tables e below (s₁.setTop (mkF m 57 #[.val (.int a), .val (.int k), .val (.int (k &&& (31 : Int32))), .val (.long ((1 : Int64) <<< ((k &&& (31 : Int32)) &&& 0x3f).toInt64)), .second, .val (.int (1 : Int32)), .val (.double (FP.dmul (FP.i2d a) (FP.l2d ((1 : Int64) <<< ((k &&& (31 : Int32)) &&& 0x3f).toInt64)))), .second, .val (.int (0 : Int32))] [])) _
        refine XS.goto X0.here hx rfl (pc0 := 57) (pc' := 89) rfl (hb hby at_57) (by decide) (by decide) ?_
        show Steps p.tables e below (s₁.setTop (mkF m 89 #[.val (.int a), .val (.int k), .val (.int (k &&& (31 : Int32))), .val (.long ((1 : Int64) <<< ((k &&& (31 : Int32)) &&& 0x3f).toInt64)), .second, .val (.int (1 : Int32)), .val (.double (FP.dmul (FP.i2d a) (FP.l2d ((1 : Int64) <<< ((k &&& (31 : Int32)) &&& 0x3f).toInt64)))), .second, .val (.int (0 : Int32))] [])) _
        refine XS.dload X0.here hx rfl (hb hby at_89) rfl ?_
        show Steps p.tables e below (s₁.setTop (mkF m 91 #[.val (.int a), .val (.int k), .val (.int (k &&& (31 : Int32))), .val (.long ((1 : Int64) <<< ((k &&& (31 : Int32)) &&& 0x3f).toInt64)), .second, .val (.int (1 : Int32)), .val (.double (FP.dmul (FP.i2d a) (FP.l2d ((1 : Int64) <<< ((k &&& (31 : Int32)) &&& 0x3f).toInt64)))), .second, .val (.int (0 : Int32))] [(.double (FP.dmul (FP.i2d a) (FP.l2d ((1 : Int64) <<< ((k &&& (31 : Int32)) &&& 0x3f).toInt64))))])) _
        exact hh)
      obtain ⟨_, _, ⟨T71, L72, k_73, n_74⟩, -, X75, ⟨Lc76, hQ77, l_78, y_79, z_80⟩, st81⟩ := Jvm.LawKit.callS X0 hx (y := (⟨"com/example/flueline/flueline/Method19", "isPossibleCarbonDioxide", "(D)Z"⟩ : MethodName)) hown (mvT hZ (wT hw 0 rfl)) (mvT hZ (wT hw 1 rfl)) (mvT hZ (wT hw 2 rfl)) (mvT hZ (wT hw 3 rfl)) (by decide) (backOf (W := 0) (rmA l Z a0 hw [] (FP.dmul (FP.i2d a) (FP.l2d ((1 : Int64) <<< ((k &&& (31 : Int32)) &&& 0x3f).toInt64))) h0 n0 Z0) hZ (wT hw 3 rfl) (wT hw 2 rfl) (by decide) (by decide)) (g := (mkF m 91 #[.val (.int a), .val (.int k), .val (.int (k &&& (31 : Int32))), .val (.long ((1 : Int64) <<< ((k &&& (31 : Int32)) &&& 0x3f).toInt64)), .second, .val (.int (1 : Int32)), .val (.double (FP.dmul (FP.i2d a) (FP.l2d ((1 : Int64) <<< ((k &&& (31 : Int32)) &&& 0x3f).toInt64)))), .second, .val (.int (0 : Int32))] [(.double (FP.dmul (FP.i2d a) (FP.l2d ((1 : Int64) <<< ((k &&& (31 : Int32)) &&& 0x3f).toInt64))))])) rfl (by rw [hml]; rfl) (argsL := [(.double (FP.dmul (FP.i2d a) (FP.l2d ((1 : Int64) <<< ((k &&& (31 : Int32)) &&& 0x3f).toInt64))))]) (rest := []) (lenOf own_h14 rfl) rfl (by show 2 * 0 + _ ≤ _; exact Nat.le_of_eq rfl) (hb hby at_91) (fun _ _ => ⟨rfl, e0, (by decide : 0 + 0 ≤ _), (by decide : 0 + 0 ≤ _)⟩)
      dsimp only [Pt.U, Pt.locs, Pt.cells, Pt.slots] at X75 l_78 y_79 z_80 st81 hQ77
      subst l_78 y_79 z_80
      obtain ⟨rfl, N82, e83⟩ := hQ77
      have N84 := Fr.app N0 N82
      have k22 : own_K p e below (T71.setTop (mkF m 94 #[.val (.int a), .val (.int k), .val (.int (k &&& (31 : Int32))), .val (.long ((1 : Int64) <<< ((k &&& (31 : Int32)) &&& 0x3f).toInt64)), .second, .val (.int (1 : Int32)), .val (.double (FP.dmul (FP.i2d a) (FP.l2d ((1 : Int64) <<< ((k &&& (31 : Int32)) &&& 0x3f).toInt64)))), .second, .val (.int (0 : Int32))] [(.int (own_co2 (FP.dmul (FP.i2d a) (FP.l2d ((1 : Int64) <<< ((k &&& (31 : Int32)) &&& 0x3f).toInt64)))))])) (s₁.setTop (entryFrame m #[(.int a), (.int k)] maxLocals)) := fun t hh => k21 t (st81 t hh)
      have k23 : own_K p e below (T71.setTop (mkF m 104 #[.val (.int a), .val (.int k), .val (.int (k &&& (31 : Int32))), .val (.long ((1 : Int64) <<< ((k &&& (31 : Int32)) &&& 0x3f).toInt64)), .second, .val (.int (1 : Int32)), .val (.double (FP.dmul (FP.i2d a) (FP.l2d ((1 : Int64) <<< ((k &&& (31 : Int32)) &&& 0x3f).toInt64)))), .second, .val (.int (0 : Int32))] [(.int (1 : Int32))])) (s₁.setTop (entryFrame m #[(.int a), (.int k)] maxLocals)) := fun t hh => k22 t (by
        refine XS.iload X75.here hx rfl (hb hby at_94) rfl ?_
        show Steps p.tables e below (T71.setTop (mkF m 96 #[.val (.int a), .val (.int k), .val (.int (k &&& (31 : Int32))), .val (.long ((1 : Int64) <<< ((k &&& (31 : Int32)) &&& 0x3f).toInt64)), .second, .val (.int (1 : Int32)), .val (.double (FP.dmul (FP.i2d a) (FP.l2d ((1 : Int64) <<< ((k &&& (31 : Int32)) &&& 0x3f).toInt64)))), .second, .val (.int (0 : Int32))] [(.int (0 : Int32)), (.int (own_co2 (FP.dmul (FP.i2d a) (FP.l2d ((1 : Int64) <<< ((k &&& (31 : Int32)) &&& 0x3f).toInt64)))))])) _
        refine XS.icmpNo X75.here hx rfl (hb hby at_96) rfl (own_icF_ne (own_up0 a k (fun q => absurd q c36))) ?_
        show Steps p.tables e below (T71.setTop (mkF m 99 #[.val (.int a), .val (.int k), .val (.int (k &&& (31 : Int32))), .val (.long ((1 : Int64) <<< ((k &&& (31 : Int32)) &&& 0x3f).toInt64)), .second, .val (.int (1 : Int32)), .val (.double (FP.dmul (FP.i2d a) (FP.l2d ((1 : Int64) <<< ((k &&& (31 : Int32)) &&& 0x3f).toInt64)))), .second, .val (.int (0 : Int32))] [])) _
        refine XS.iconst X75.here hx rfl (hb hby at_99) ?_
        show Steps p.tables e below (T71.setTop (mkF m 100 #[.val (.int a), .val (.int k), .val (.int (k &&& (31 : Int32))), .val (.long ((1 : Int64) <<< ((k &&& (31 : Int32)) &&& 0x3f).toInt64)), .second, .val (.int (1 : Int32)), .val (.double (FP.dmul (FP.i2d a) (FP.l2d ((1 : Int64) <<< ((k &&& (31 : Int32)) &&& 0x3f).toInt64)))), .second, .val (.int (0 : Int32))] [(.int (1 : Int32))])) _
        refine XS.goto X75.here hx rfl (pc0 := 100) (pc' := 104) rfl (hb hby at_100) (by decide) (by decide) ?_
        show Steps p.tables e below (T71.setTop (mkF m 104 #[.val (.int a), .val (.int k), .val (.int (k &&& (31 : Int32))), .val (.long ((1 : Int64) <<< ((k &&& (31 : Int32)) &&& 0x3f).toInt64)), .second, .val (.int (1 : Int32)), .val (.double (FP.dmul (FP.i2d a) (FP.l2d ((1 : Int64) <<< ((k &&& (31 : Int32)) &&& 0x3f).toInt64)))), .second, .val (.int (0 : Int32))] [(.int (1 : Int32))])) _
        exact hh)
      obtain ⟨fs, hr, hrun, hended, hW, hsame⟩ := X75.leave (v := some (.int (1 : Int32))) (fun h => by rw [Bd.returns] at h; cases h)
      refine ⟨_, _, k23 _ (retN X75 hx (t := .boolean) Bd.returns (by simp) (hb hby at_104) hr), hrun, hended, _, _, rfl, ?_, ⟨_, rfl⟩, hW, hsame.mono (by decide) (by decide)⟩
      show QL h0 n0 _ T71.heap _
      rw [e83]
      exact ⟨rfl, N84⟩
set_option maxRecDepth 65536 in
set_option maxHeartbeats 40000000 in
theorem comes_1 {Post : Tables → Env → Array Value → State → Outcome → State → Prop} (hpost : ∀ tb e args s v u, (limb_1_1.after args s (.returned v) u = true ∧ limb_1_2.after args s (.returned v) u = true ∧ True) → FrameEnd s (.returned v) u (Jvm.fieldLocs frame_1_writes args s ++ Jvm.arrayLocs frame_1_arrays args s ++ Jvm.staticLocs frame_1_statics s) 0 0 → Post tb e args s (.returned v) u) :
    ArmFor flags0 classFile x code maxLocals ret World_1 tables_1 room_1 Calls_1 rest_1 Pre_1 Post := by
  intro l hfl _ _ p e ha hc hk s m args below hf hA hF happ hP
  obtain ⟨hcalls, hrest, hpre⟩ := hP
  obtain ⟨-, -, -, hnamed, -, -, -, hat⟩ := (Spec.applies_iff hf).mp happ
  obtain ⟨hg, hn⟩ := and_e (Cond.before_iff.mp (show (Jvm.Cond.and given_1 narrow_1).before args s = true from hpre))
  obtain ⟨h1, g0⟩ := and_e hg
  obtain ⟨j0, g1⟩ := and_e g0
  have j1 := g1
  obtain ⟨w0, w1, rfl⟩ : ∃ w0 w1 : Value, args = #[w0, w1] := by
    have hs : args.size = 2 := by simpa [Cond.value, given_1] using h1
    obtain ⟨L⟩ := args
    match L, hs with
    | [w0, w1], _ => exact ⟨w0, w1, rfl⟩
  have hw := fun d (hd : d ∈ tables_1) => atoms_spec (ws := Jvm.Cond.code x code maxLocals ret :: tables_1) hat d (List.mem_cons_of_mem _ hd)
  have hfit : Fit s := fun {y c} hc i hi => by
    obtain ⟨ha, rfl⟩ := Array.getElem?_eq_some_iff.mp hc
    have q := List.all_eq_true.mp ((Array.all_eq_true_iff_forall_mem.mp hF) _ (Array.getElem_mem ha)) i (List.mem_range.mpr hi)
    simpa [Array.getElem?_eq_getElem hi] using q
  obtain ⟨i0, q0⟩ := is_v j0
  obtain rfl : w0 = (.int i0) := Option.some.inj q0
  obtain ⟨i1, q1⟩ := is_v j1
  obtain rfl : w1 = (.int i1) := Option.some.inj q1
  obtain ⟨n, o, h1, h2, h3, _, L, rfl, ⟨rfl, N⟩, hq⟩ := rmL l s _ hw tables_1 i0 i1 s.heap s.heap.size (Nat.le_refl _)  p e ha hc hk s m _ below hf ((Spec.applies_iff_loose hf).mp happ).1 ⟨rfl, State.Warmed39.refl s, rfl⟩ trivial
  refine ⟨n, _, h1, h2, h3, hpost _ _ _ _ _ _ ⟨Cond.after_iff.mpr rfl, Cond.after_iff.mpr (eq_i res_at (Term.int_eval (1)) rfl), trivial⟩ ⟨hq.1, hq.2.1, (hq.2.2.sift fun y hy => Or.inr (N y hy)).mono (by decide) (by decide)⟩⟩
theorem main_1_1 : Claimed_1_1 := comes_1 fun _ _ _ _ _ _ h hF => ⟨h.1, hF⟩
theorem main_1_2 : Claimed_1_2 := comes_1 fun _ _ _ _ _ _ h hF => ⟨h.2.1, hF⟩
end Jvm.Pilot.@@N@@
namespace Jvm.Pilot.@@N@@
open Jvm Jvm.ClassFile Sem Op Lib Jvm.Free Jvm.Stand Jvm.Pilot.@@N@@.Jvm.D
/-! MADE BY PROGRAM (witnessworld.py) out of the Statement's table words and the real class files: 9 classes; the members and pool entries that the words name. The judged class is class 1, her method 1. -/
namespace start1
open Jvm.ClassFile
def u (s : String) : CpInfo := .utf8 (stringToUtf16 s)
/-- a pool by its gaps: so many unusable entries, then the entry; so many at the end -/
def gap : Nat → List CpInfo → List CpInfo
  | 0, r => r
  | n + 1, r => .unusable :: gap n r
def poolList (es : List (Nat × CpInfo)) (last : Nat) : List CpInfo := es.foldr (fun e r => gap e.1 (e.2 :: r)) (gap last [])
def pool (es : List (Nat × CpInfo)) (last : Nat) : Array CpInfo := ⟨poolList es last⟩
def fileOf (pool : Array CpInfo) (this : Nat) (attrs : Array Attribute := #[]) (ms : Array MethodInfo := #[]) (fl : Nat := 33) (sup : Nat := 0) (ifs : Array Nat := #[]) (fds : Array FieldInfo := #[]) : ClassFile where
  minorVersion := 0
  majorVersion := 65
  constantPool := pool
  accessFlags := fl
  thisClass := this
  superClass := sup
  interfaces := ifs
  fields := fds
  methods := ms
  attributes := attrs
def plain (name : String) (sup : Option ClassId) : Class where
  name := name
  kind := .ordinary
  loader := none
  accessFlags := 33
  super := sup
  interfaces := #[]
  cf := none
  fields := #[]
  methods := #[]
  instanceTypes := #[]
  staticTypes := #[]
  resolved := #[]
  callSites := []
  init := .initialized
  statics := none
  mirror := none

def pool0 : Array CpInfo := pool [(5, u "<init>"), (0, u "()V"), (1, .class_ 10), (1, u "java/lang/Object")] 113

def k0m0 : Method := { name := "<init>", desc := "()V", sig := { parameters := [], returnType := none }, accessFlags := 1, code := none }
/-- java/lang/Object -/
def k0 : Class := { plain "java/lang/Object" none with
  accessFlags := 33
  interfaces := #[]
  cf := some (fileOf pool0 8 #[] #[{ accessFlags := 1, nameIndex := 5, descriptorIndex := 6, attributes := #[] }] 33 0 #[] #[])
  fields := #[]
  methods := #[k0m0]
  instanceTypes := #[]
  staticTypes := #[]
  resolved := Array.replicate 124 none
  statics := none }

def pool1 : Array CpInfo := pool [(2, .class_ 4), (1, u "java/lang/Object"), (0, u "<init>"), (0, u "()V"), (0, .long 100), (1, .methodref 10 11), (0, .class_ 12), (0, .nameAndType 13 14), (0, u "com/example/flueline/flueline/Method19"), (0, u "isPossibleCarbonDioxide"), (0, u "(D)Z"), (0, .class_ 16), (0, u "com/example/flueline/flueline/Method19IsPossibleCarbonDioxidePinLaw"), (2, u "law"), (0, u "(II)Z")] 3

def k1m0 : Method := { name := "<init>", desc := "()V", sig := { parameters := [], returnType := none }, accessFlags := 2, code := none }
def k1c1 : Code := { maxStack := 6, maxLocals := 9, code := code, exceptionTable := #[], attributes := #[] }
def k1m1 : Method := { name := "law", desc := "(II)Z", sig := { parameters := [.int, .int], returnType := some .boolean }, accessFlags := 9, code := some k1c1 }
/-- com/example/flueline/flueline/Method19IsPossibleCarbonDioxidePinLaw -/
def k1 : Class := { plain "com/example/flueline/flueline/Method19IsPossibleCarbonDioxidePinLaw" (some 0) with
  accessFlags := 49
  interfaces := #[]
  cf := some (fileOf pool1 15 #[] #[{ accessFlags := 2, nameIndex := 5, descriptorIndex := 6, attributes := #[] }, { accessFlags := 9, nameIndex := 19, descriptorIndex := 20, attributes := #[] }] 49 2 #[] #[])
  fields := #[]
  methods := #[k1m0, k1m1]
  instanceTypes := #[]
  staticTypes := #[]
  resolved := Array.replicate 24 none
  statics := none }

def pool2 : Array CpInfo := pool [(2, .class_ 4), (1, u "java/lang/Object"), (0, u "<init>"), (0, u "()V"), (3, .class_ 12), (1, u "com/example/flueline/flueline/Method19"), (32, u "Lcom/example/flueline/flueline/Rational;"), (12, u "EXACT_AMBIENT_OXYGEN_PERCENT"), (2, u "EXACT_WHOLE_PERCENT"), (2, .double 4636737291354636288), (43, u "(D)Z"), (28, u "isPossibleCarbonDioxide"), (25, u "AMBIENT_OXYGEN_PERCENT"), (0, u "D"), (1, u "WHOLE_PERCENT")] 41

def k2m0 : Method := { name := "<init>", desc := "()V", sig := { parameters := [], returnType := none }, accessFlags := 2, code := none }
def k2c1 : Code := { maxStack := 4, maxLocals := 2, code := prog_34_method_14_code, exceptionTable := #[], attributes := #[] }
def k2m1 : Method := { name := "isPossibleCarbonDioxide", desc := "(D)Z", sig := { parameters := [.double], returnType := some .boolean }, accessFlags := 8, code := some k2c1 }
/-- com/example/flueline/flueline/Method19 -/
def k2 : Class := { plain "com/example/flueline/flueline/Method19" (some 0) with
  accessFlags := 33
  interfaces := #[]
  cf := some (fileOf pool2 10 #[] #[{ accessFlags := 2, nameIndex := 5, descriptorIndex := 6, attributes := #[] }, { accessFlags := 8, nameIndex := 137, descriptorIndex := 108, attributes := #[] }] 33 2 #[] #[{ accessFlags := 25, nameIndex := 163, descriptorIndex := 164, attributes := #[] }, { accessFlags := 24, nameIndex := 58, descriptorIndex := 45, attributes := #[] }, { accessFlags := 26, nameIndex := 166, descriptorIndex := 164, attributes := #[] }, { accessFlags := 26, nameIndex := 61, descriptorIndex := 45, attributes := #[] }])
  fields := #[{ name := "AMBIENT_OXYGEN_PERCENT", type := .double, accessFlags := 25, slot := 0, constantValue := 0 }, { name := "EXACT_AMBIENT_OXYGEN_PERCENT", type := (.object "com/example/flueline/flueline/Rational"), accessFlags := 24, slot := 1, constantValue := 0 }, { name := "WHOLE_PERCENT", type := .double, accessFlags := 26, slot := 2, constantValue := 0 }, { name := "EXACT_WHOLE_PERCENT", type := (.object "com/example/flueline/flueline/Rational"), accessFlags := 26, slot := 3, constantValue := 0 }]
  methods := #[k2m0, k2m1]
  instanceTypes := #[]
  staticTypes := #[.double, (.object "com/example/flueline/flueline/Rational"), .double, (.object "com/example/flueline/flueline/Rational")]
  resolved := Array.replicate 208 none
  statics := none }

def pool3 : Array CpInfo := pool [(1, u "java/lang/Cloneable"), (0, .class_ 1), (0, u "java/lang/Object"), (0, .class_ 3)] 3

/-- java/lang/Cloneable -/
def k3 : Class := { plain "java/lang/Cloneable" (some 0) with
  accessFlags := 1537
  interfaces := #[]
  cf := some (fileOf pool3 2 #[] #[] 1537 4 #[] #[])
  fields := #[]
  methods := #[]
  instanceTypes := #[]
  staticTypes := #[]
  resolved := Array.replicate 8 none
  statics := none }

def pool4 : Array CpInfo := pool [(1, u "java/io/Serializable"), (0, .class_ 1), (0, u "java/lang/Object"), (0, .class_ 3)] 3

/-- java/io/Serializable -/
def k4 : Class := { plain "java/io/Serializable" (some 0) with
  accessFlags := 1537
  interfaces := #[]
  cf := some (fileOf pool4 2 #[] #[] 1537 4 #[] #[])
  fields := #[]
  methods := #[]
  instanceTypes := #[]
  staticTypes := #[]
  resolved := Array.replicate 8 none
  statics := none }

/-- the primitive byte -/
def k5 : Class := { plain "byte" none with kind := .primitive 'B', accessFlags := 0x411 }
/-- [B -/
def k6 : Class := { plain "[B" (some 0) with kind := .array 5 .byte, interfaces := #[3, 4], accessFlags := 1041 }

/-- the primitive int -/
def k7 : Class := { plain "int" none with kind := .primitive 'I', accessFlags := 0x411 }
/-- [I -/
def k8 : Class := { plain "[I" (some 0) with kind := .array 7 .int, interfaces := #[3, 4], accessFlags := 1041 }

def heap : Heap := #[]
def classes : Array Class := #[k0, k1, k2, k3, k4, k5, k6, k7, k8]
def interned : List (Array UInt16 × Addr) := []
def slotsUsed : Nat := 0
def theMethod : MethodId := ⟨1, 1⟩
def args0 : Array Value := #[.int 5, .int 3]
def aboutOver (below : List Frame) : State where
  vm := { classes := classes, interned := interned.toArray }
  heap := heap
  slotsUsed := slotsUsed
  threads := #[{ frames := .invoking theMethod args0 :: below }]
def below0 : List Frame := [.native { method := ⟨0, 0⟩, args := #[] }]
def about1 : State := aboutOver below0
def p0 : Program := .bare "" "" ""
def e0 : Env := launch0.env 0 0 0
theorem w_frames : about1.frames = Frame.invoking theMethod args0 :: below0 := rfl
set_option maxRecDepth 65536 in
theorem w_args : argsFit about1.vm theMethod args0 = true := by decide +kernel
set_option maxRecDepth 65536 in
theorem w_heap : heapFits about1 = true := by decide +kernel
set_option maxRecDepth 65536 in
theorem w_runnable : about1.curStatus? = some .runnable := by decide +kernel
set_option maxRecDepth 65536 in
theorem w_alone : about1.alone = true := by decide +kernel
set_option maxRecDepth 65536 in
theorem w_named : about1.methodNamed? x = some theMethod := by decide +kernel
set_option maxRecDepth 65536 in
theorem w_hears : about1.hears theMethod below0 = true := by decide +kernel
set_option maxRecDepth 65536 in
theorem w_ripe : about1.ripe theMethod args0 below0 = true := by decide +kernel
theorem w_running : about1.status = .running := rfl
set_option maxRecDepth 65536 in
theorem w_room : about1.hasRoom e0.platform room_1 = true :=
  launch0.hasRoom_least _ room_1 (by decide +kernel) (by decide +kernel) (by decide +kernel) (by decide +kernel) (by decide +kernel) (by decide +kernel)
theorem allAtoms_all (ts : List Jvm.Cond) (a : Array Jvm.Value) (st : Jvm.State) : (allAtoms ts).before a st = ts.all (fun c => c.before a st) := by
  induction ts with
  | nil => rfl
  | cons c t ih =>
    show (Jvm.Cond.and c (allAtoms t)).before a st = _
    rw [Jvm.Cond.before_and, ih, List.all_cons]
def words1 : List Jvm.Cond := Jvm.Cond.code x code maxLocals ret :: tables_1
/-- a 'code' word, met by the world's own term for the bytes: nothing is compared byte by byte -/
theorem code_word {y : MethodName} {bytes : ByteArray} {mx : Nat} {rt : Option FieldType} {a : Array Value} {s : State} {m : MethodId} {meth : Method} {c : Code} (h1 : s.methodNamed? y = some m) (h2 : s.vm.method? m = some meth) (h3 : meth.code = some c) (h4 : c.code = bytes)
    (h5 : (c.maxLocals == mx && c.exceptionTable.isEmpty && decide (c.maxStack ≤ mostOperands) && decide (meth.sig.returnType = rt) && !meth.locks && decide (parseMethodDescriptor y.desc = some meth.sig)) = true) : (Jvm.Cond.code y bytes mx rt).before a s = true := by
  simp only [Bool.and_eq_true, beq_iff_eq, Bool.not_eq_true', decide_eq_true_eq] at h5
  obtain ⟨⟨⟨⟨⟨g1, g2⟩, g3⟩, g4⟩, g5⟩, g6⟩ := h5
  simp [Cond.before, Cond.holds, Cond.value, h1, h2, h3, h4, g1, g2, g3, g4, g5, g6]
def isCode : Jvm.Cond → Bool
  | .code _ _ _ _ => true
  | _ => false
theorem all_split {L : List Jvm.Cond} {P : Jvm.Cond → Bool} (h1 : L.all (fun c => isCode c || P c) = true) (h2 : ∀ c ∈ L.filter isCode, P c = true) : L.all P = true := by
  refine List.all_eq_true.mpr fun c hc => ?_
  have h := List.all_eq_true.mp h1 c hc
  rcases Bool.eq_false_or_eq_true (isCode c) with hi | hi
  · exact h2 c (List.mem_filter.mpr ⟨hc, hi⟩)
  · simpa [hi] using h
set_option maxRecDepth 65536 in
theorem w_c0 : (Jvm.Cond.code x code maxLocals ret).before args0 about1 = true := code_word (m := ⟨1, 1⟩) (meth := k1m1) (c := k1c1) (by decide +kernel) rfl rfl rfl (by decide +kernel)
set_option maxRecDepth 65536 in
theorem w_c1 : (Jvm.Cond.code ({ cls := "com/example/flueline/flueline/Method19", name := "isPossibleCarbonDioxide", desc := "(D)Z" } : Jvm.MethodName) prog_34_method_14_code (2 : Nat) (Option.some Jvm.ClassFile.FieldType.boolean)).before args0 about1 = true := code_word (m := ⟨2, 1⟩) (meth := k2m1) (c := k2c1) (by decide +kernel) rfl rfl rfl (by decide +kernel)
def codes1 : List Jvm.Cond := [Jvm.Cond.code x code maxLocals ret, Jvm.Cond.code ({ cls := "com/example/flueline/flueline/Method19", name := "isPossibleCarbonDioxide", desc := "(D)Z" } : Jvm.MethodName) prog_34_method_14_code (2 : Nat) (Option.some Jvm.ClassFile.FieldType.boolean)]
set_option maxRecDepth 65536 in
theorem codes_eq : words1.filter isCode = codes1 := rfl
theorem w_codes : ∀ c ∈ words1.filter isCode, c.before args0 about1 = true := by
  rw [codes_eq]
  intro c hc
  simp only [codes1, List.mem_cons, List.not_mem_nil, or_false] at hc
  rcases hc with rfl | rfl
  · exact w_c0
  · exact w_c1
set_option maxRecDepth 65536 in
theorem w_t1 : words1.all (fun c => isCode c || c.before args0 about1) = true := by decide +kernel
theorem w_tables : (allAtoms (Jvm.Cond.code x code maxLocals ret :: tables_1)).before args0 about1 = true := by
  rw [allAtoms_all]
  show words1.all (fun c => c.before args0 about1) = true
  refine all_split ?_ w_codes
  rw [w_t1]
set_option maxRecDepth 65536 in
theorem w_case : (Jvm.Cond.and given_1 narrow_1).before args0 about1 = true := by decide +kernel
theorem w_applies : (headSpec (Jvm.Cond.code x code maxLocals ret :: tables_1) room_1).applies x e0.platform about1 = true :=
  (Spec.applies_iff w_frames).mpr ⟨w_running, w_runnable, w_alone, w_named, w_hears, w_ripe, w_room, w_tables⟩
theorem atStart : AtStart classFile x code maxLocals ret World_1 tables_1 room_1 Calls_1 rest_1 Pre_1 launch0 p0 e0 about1 theMethod args0 below0 :=
  ⟨lists_1, trivial, launch0.admits_env _ _ _, launch0.least_env, fairChoices_fair.cas, fairChoices_fair.clock, w_frames, w_args, w_heap, w_applies, trivial, trivial, w_case⟩
end start1
theorem witness_1 : WitnessClaimed_1 := ⟨start1.p0, start1.e0, start1.about1, start1.theMethod, start1.args0, start1.below0, start1.atStart⟩
end Jvm.Pilot.@@N@@
