import JvmDerived
import JvmDerived.Pilot.@@N@@Statement
import JvmDerived.Pilot.@@N@@Code
set_option linter.unusedVariables false
set_option linter.unusedSimpArgs false
namespace Jvm.Pilot.@@N@@.Dyad
open Jvm Jvm.FP Jvm.FP.Core
/-- the exponent moved up by k -/
def sh (k : Int) : Datum → Datum
  | .nan => .nan
  | .inf s => .inf s
  | .fin s c q => .fin s c (q + k)
theorem sh_prod (k l : Int) (x y : Datum) : exactProduct (sh k x) (sh l y) = sh (k + l) (exactProduct x y) := by
  cases x <;> cases y <;> simp only [sh, exactProduct]
  · split <;> rfl
  · split <;> rfl
  · rw [show ∀ q r : Int, q + k + (r + l) = q + r + (k + l) from fun q r => by omega]
theorem inUnits_sh (c : Nat) (q e k : Int) : inUnits c (q + k) (e + k) = inUnits c q e := by
  unfold inUnits; rw [show q + k - (e + k) = q - e by omega]
theorem min_sh (q r k : Int) : min (q + k) (r + k) = min q r + k := by omega
theorem sumUnits_sh (s : Bool) (c : Nat) (q : Int) (t : Bool) (d : Nat) (r e k : Int) : sumUnits s c (q + k) t d (r + k) (e + k) = sumUnits s c q t d r e := by
  unfold sumUnits; rw [inUnits_sh, inUnits_sh]
theorem sh_sum (k : Int) (x y : Datum) : exactSum (sh k x) (sh k y) = sh k (exactSum x y) := by
  cases x <;> cases y <;> simp only [sh, exactSum]
  · split <;> rfl
  · rw [min_sh, sumUnits_sh]
theorem sh_neg (k : Int) (x : Datum) : negate (sh k x) = sh k (negate x) := by
  cases x <;> rfl
theorem order_sh (k : Int) (x y : Datum) : order (sh k x) (sh k y) = order x y := by
  cases x <;> cases y <;> simp only [sh, order]
  rw [min_sh, inUnits_sh, inUnits_sh]
theorem sh_zero (x : Datum) : sh 0 x = x := by
  cases x <;> simp [sh]
/-- x is the number n / 2^k -/
def Dy (n k : Int) (x : UInt64) : Prop := Whole n (sh k (val64 x))
theorem Dy.fin {n k : Int} {x : UInt64} (h : Dy n k x) : ∃ s c q, val64 x = .fin s c q ∧ Whole n (.fin s c (q + k)) := by
  unfold Dy at h
  cases hx : val64 x with
  | nan => rw [hx] at h; exact h.elim
  | inf s => rw [hx] at h; exact h.elim
  | fin s c q => rw [hx] at h; exact ⟨s, c, q, rfl, h⟩
theorem Dy.ne_nan {n k : Int} {x : UInt64} (h : Dy n k x) : val64 x ≠ .nan := by
  obtain ⟨s, c, q, e, -⟩ := h.fin; rw [e]; exact Datum.noConfusion
theorem Dy.no {n k : Int} {x : UInt64} (h : Dy n k x) : Jvm.Free.Fl.NoNaN64 x := Jvm.Free.Fl.val64_no.mpr h.ne_nan
theorem whole_scale {n : Int} {s : Bool} {c : Nat} {a : Int} (j : Nat) : Whole n (.fin s c a) ↔ Whole (n * ((2 ^ j : Nat) : Int)) (.fin s c (a + j)) := by
  show signed s (c * 2 ^ a.toNat) = n * ((2 ^ (-a).toNat : Nat) : Int) ↔ signed s (c * 2 ^ (a + j).toNat) = n * ((2 ^ j : Nat) : Int) * ((2 ^ (-(a + j)).toNat : Nat) : Int)
  have e : (a + j).toNat + (-a).toNat = a.toNat + (j + (-(a + j)).toNat) := by omega
  have p : ((2 ^ (-a).toNat : Nat) : Int) ≠ 0 := by have := Nat.two_pow_pos (-a).toNat; omega
  have p2 : ((2 ^ j : Nat) : Int) ≠ 0 := by have := Nat.two_pow_pos j; omega
  have p3 : ((2 ^ (-(a + j)).toNat : Nat) : Int) ≠ 0 := by have := Nat.two_pow_pos (-(a + j)).toNat; omega
  rw [signed_mul, signed_mul]
  have e2 : ((2 ^ (a + j).toNat : Nat) : Int) * ((2 ^ (-a).toNat : Nat) : Int) = ((2 ^ a.toNat : Nat) : Int) * (((2 ^ j : Nat) : Int) * ((2 ^ (-(a + j)).toNat : Nat) : Int)) := by
    rw [← Int.natCast_mul, ← Int.natCast_mul, ← Int.natCast_mul, ← Nat.pow_add, ← Nat.pow_add, ← Nat.pow_add, e]
  generalize signed s c = v
  generalize ((2 ^ (a + j).toNat : Nat) : Int) = P at e2 ⊢
  generalize ((2 ^ (-a).toNat : Nat) : Int) = M at p e2 ⊢
  generalize ((2 ^ a.toNat : Nat) : Int) = A at e2 ⊢
  generalize ((2 ^ j : Nat) : Int) = J at p2 e2 ⊢
  generalize ((2 ^ (-(a + j)).toNat : Nat) : Int) = N at p3 e2 ⊢
  have q1 : v * P * M = v * A * (J * N) := by
    calc v * P * M = v * (P * M) := Int.mul_assoc _ _ _
      _ = v * (A * (J * N)) := by rw [e2]
      _ = v * A * (J * N) := (Int.mul_assoc _ _ _).symm
  have q2 : n * J * N * M = n * M * (J * N) := by simp only [Int.mul_assoc, Int.mul_comm, Int.mul_left_comm]
  constructor
  · intro h
    apply Int.eq_of_mul_eq_mul_right p
    rw [q1, h, q2]
  · intro h
    apply Int.eq_of_mul_eq_mul_right (Int.mul_ne_zero p2 p3)
    rw [← q1, h, q2]
theorem Dy.scale {n k : Int} {x : UInt64} (j : Nat) : Dy n k x ↔ Dy (n * ((2 ^ j : Nat) : Int)) (k + j) x := by
  unfold Dy
  cases val64 x with
  | nan => exact Iff.rfl
  | inf s => exact Iff.rfl
  | fin s c q =>
    show Whole _ (.fin s c (q + k)) ↔ Whole _ (.fin s c (q + (k + j)))
    rw [show q + (k + (j : Int)) = q + k + j by omega]
    exact whole_scale j
theorem Dy.cast {n m k : Int} {x : UInt64} (h : Dy n k x) (e : n = m) : Dy m k x := e ▸ h
theorem Dy.up {n m k l : Int} {x : UInt64} (h : Dy n k x) (j : Nat) (hl : k + j = l) (e : n * ((2 ^ j : Nat) : Int) = m) : Dy m l x := by subst hl e; exact (Dy.scale j).mp h
theorem Dy.down {n m k l : Int} {x : UInt64} (h : Dy n k x) (j : Nat) (hl : l + j = k) (e : m * ((2 ^ j : Nat) : Int) = n) : Dy m l x := by subst hl e; exact (Dy.scale j).mpr h
theorem Dy.i2d (a : Int32) : Dy a.toInt 0 (FP.i2d a) := by
  unfold Dy; rw [sh_zero]; exact i2d_int a
theorem Dy.l2d {a : Int64} (h : a.toInt.natAbs ≤ 2 ^ 53) : Dy a.toInt 0 (FP.l2d a) := by
  unfold Dy; rw [sh_zero]; exact l2d_int h
theorem Dy.lit {n : Int64} {x : UInt64} {m : Int} (h : x = FP.l2d n) (e : n.toInt = m) (b : m.natAbs ≤ 2 ^ 53) : Dy m 0 x := by
  subst h e; exact Dy.l2d b
theorem Dy.cmp {n m k : Int} {x y : UInt64} (hx : Dy n k x) (hy : Dy m k y) : FP.dcmp x y = some (compare n m) := by
  show order (val64 x) (val64 y) = _
  rw [← order_sh k]; exact order_whole hx hy
theorem compare_lt {n m : Int} (h : n < m) : compare n m = .lt := (compare_lt_iff n m).mpr h
theorem compare_eq {n m : Int} (h : n = m) : compare n m = .eq := (compare_eq_iff n m).mpr h
theorem compare_gt {n m : Int} (h : m < n) : compare n m = .gt := by
  rw [compare_swap_int, compare_lt h]; rfl
theorem Dy.lt {n m k : Int} {x y : UInt64} (hx : Dy n k x) (hy : Dy m k y) (h : n < m) (o : Jvm.ClassFile.CmpOp) : Op.cmpValue (FP.dcmp x y) o = -1 := by rw [hx.cmp hy, compare_lt h]; rfl
theorem Dy.eq {n m k : Int} {x y : UInt64} (hx : Dy n k x) (hy : Dy m k y) (h : n = m) (o : Jvm.ClassFile.CmpOp) : Op.cmpValue (FP.dcmp x y) o = 0 := by rw [hx.cmp hy, compare_eq h]; rfl
theorem Dy.gt {n m k : Int} {x y : UInt64} (hx : Dy n k x) (hy : Dy m k y) (h : m < n) (o : Jvm.ClassFile.CmpOp) : Op.cmpValue (FP.dcmp x y) o = 1 := by rw [hx.cmp hy, compare_gt h]; rfl
theorem signed_natAbs {n : Int} {s : Bool} (h : n ≠ 0 → s = decide (n < 0)) : signed s n.natAbs = n := by
  by_cases h0 : n = 0
  · subst h0; exact signed_zero s
  · rw [h h0]; unfold signed
    by_cases q : n < 0
    · simp [q]; omega
    · simp [q]; omega
/-- a number of 53 digits is held exactly -/
theorem round_dy {n k : Int} {d : Datum} (h : Whole n (sh k d)) (hn : n.natAbs < 2 ^ 53) (hk : -900 ≤ k ∧ k ≤ 1000) : Whole n (sh k (round b64 d)) := by
  cases d with
  | nan => exact h.elim
  | inf s => exact h.elim
  | fin s c q =>
    have h1 : Whole n (.fin s c (q + k)) := h
    have e : round b64 (.fin s c q) = round b64 (.fin s n.natAbs (-k)) := by
      show roundRatio b64 s c 1 q = roundRatio b64 s n.natAbs 1 (-k)
      refine roundRatio_congr (by decide) (by decide) ?_
      have := whole_natAbs h1
      rw [Nat.mul_one, Nat.mul_one, show q - -k = q + k by omega, show -k - q = -(q + k) by omega]
      exact this
    have hq : b64.qmin = -1074 := qmin_b64
    have hp : b64.p = 53 := rfl
    obtain ⟨c', q', e1, e2⟩ := round_exact good_b64 s (c := n.natAbs) (q := -k) (by rw [hp]; exact hn) (by rw [hq]; omega) (by rw [show b64.qmax = 971 by decide]; omega)
    rw [e, e1]
    have hf := round_fits good_b64 (.fin s n.natAbs (-k))
    rw [e1] at hf
    have hq' : -1074 ≤ q' := hq ▸ hf.2.1
    unfold inUnits at e2
    rw [hq] at e2
    show signed s (c' * 2 ^ (q' + k).toNat) = n * ((2 ^ (-(q' + k)).toNat : Nat) : Int)
    have key : c' * 2 ^ (q' + k).toNat = n.natAbs * 2 ^ (-(q' + k)).toNat := by
      have e3 : (q' + k).toNat + (-k - -1074).toNat = (q' - -1074).toNat + (-(q' + k)).toNat := by omega
      apply Nat.eq_of_mul_eq_mul_right (Nat.two_pow_pos (-k - -1074).toNat)
      rw [Nat.mul_assoc, ← Nat.pow_add, e3, Nat.pow_add, ← Nat.mul_assoc, e2]
      simp only [Nat.mul_assoc, Nat.mul_comm, Nat.mul_left_comm]
    rw [key, signed_mul, signed_natAbs (fun h0 => whole_sign h1 h0)]
theorem Dy.mul {n m k l : Int} {x y : UInt64} (hx : Dy n k x) (hy : Dy m l y) (hb : (n * m).natAbs < 2 ^ 53) (hk : -900 ≤ k + l ∧ k + l ≤ 1000) : Dy (n * m) (k + l) (FP.dmul x y) := by
  unfold Dy
  rw [show val64 (FP.dmul x y) = _ from val64_dmul x y]
  refine round_dy ?_ hb hk
  rw [← sh_prod]
  exact whole_product hx hy
theorem Dy.add {n m k : Int} {x y : UInt64} (hx : Dy n k x) (hy : Dy m k y) (hb : (n + m).natAbs < 2 ^ 53) (hk : -900 ≤ k ∧ k ≤ 1000) : Dy (n + m) k (FP.dadd x y) := by
  unfold Dy
  rw [show val64 (FP.dadd x y) = _ from val64_dadd x y]
  refine round_dy ?_ hb hk
  rw [← sh_sum]
  exact whole_sum hx hy
theorem Dy.sub {n m k : Int} {x y : UInt64} (hx : Dy n k x) (hy : Dy m k y) (hb : (n - m).natAbs < 2 ^ 53) (hk : -900 ≤ k ∧ k ≤ 1000) : Dy (n - m) k (FP.dsub x y) := by
  unfold Dy
  rw [show val64 (FP.dsub x y) = _ from val64_dsub x y]
  refine round_dy ?_ hb hk
  rw [← sh_sum, ← sh_neg, Int.sub_eq_add_neg]
  exact whole_sum hx (whole_negate hy)
/-- the quotient's rounding, by the values alone -/
theorem Dy.quot {n m k l : Int} {x y : UInt64} (hx : Dy n k x) (hy : Dy m l y) (hm : m ≠ 0) : ∃ s, val64 (FP.ddiv x y) = roundRatio b64 s n.natAbs m.natAbs (l - k) ∧ (n ≠ 0 → s = (decide (n < 0) != decide (m < 0))) := by
  obtain ⟨s, c, q, ex, wx⟩ := hx.fin
  obtain ⟨t, d, r, ey, wy⟩ := hy.fin
  have hd : d ≠ 0 := fun z => hm ((whole_zero wy).mp z)
  refine ⟨s != t, ?_, fun h0 => by rw [whole_sign wx h0, whole_sign wy hm]⟩
  rw [show val64 (FP.ddiv x y) = _ from val64_ddiv x y, ex, ey]
  simp only [quotient, if_neg hd]
  refine roundRatio_congr (Nat.pos_of_ne_zero hd) (by omega) ?_
  have e1 := whole_natAbs wx
  have e2 := whole_natAbs wy
  have e3 : (q - r - (l - k)).toNat + ((-(q + k)).toNat + (r + l).toNat) = (l - k - (q - r)).toNat + ((q + k).toNat + (-(r + l)).toNat) := by omega
  apply Nat.eq_of_mul_eq_mul_right (Nat.two_pow_pos ((-(q + k)).toNat + (r + l).toNat))
  rw [Nat.mul_assoc, ← Nat.pow_add, e3, Nat.pow_add, Nat.pow_add, Nat.pow_add]
  generalize 2 ^ (l - k - (q - r)).toNat = P
  generalize 2 ^ (q + k).toNat = A at *
  generalize 2 ^ (-(q + k)).toNat = A' at *
  generalize 2 ^ (r + l).toNat = B at *
  generalize 2 ^ (-(r + l)).toNat = B' at *
  calc c * m.natAbs * (P * (A * B')) = (c * A) * (m.natAbs * B') * P := by simp only [Nat.mul_assoc, Nat.mul_comm, Nat.mul_left_comm]
    _ = (n.natAbs * A') * (d * B) * P := by rw [e1, e2]
    _ = n.natAbs * d * P * (A' * B) := by simp only [Nat.mul_assoc, Nat.mul_comm, Nat.mul_left_comm]
theorem sgn_of_quot {n m j : Int} {a b c : Nat} (ha : 0 < a) (hb : 0 < b) (hm : m ≠ 0) (h : n * (a : Int) = j * m * (b : Int)) (hj : j ≠ 0) : (n ≠ 0) ∧ decide (j < 0) = (decide (n < 0) != decide (m < 0)) := by
  have hn : n ≠ 0 := by
    intro z; rw [z, Int.zero_mul] at h
    have := Int.mul_eq_zero.mp h.symm
    rcases this with q | q
    · rcases Int.mul_eq_zero.mp q with q | q
      · exact hj q
      · exact hm q
    · omega
  refine ⟨hn, ?_⟩
  have ha' : (0 : Int) < a := by omega
  have hb' : (0 : Int) < b := by omega
  rcases Int.lt_or_gt_of_ne hj with q | q <;> rcases Int.lt_or_gt_of_ne hm with r | r <;> rcases Int.lt_or_gt_of_ne hn with t | t
  all_goals first
    | (simp [q, r, t]; done)
    | (simp [q, r, t, Int.not_lt.mpr (Int.le_of_lt q), Int.not_lt.mpr (Int.le_of_lt r), Int.not_lt.mpr (Int.le_of_lt t)]; done)
    | (simp [q, r, t, Int.not_lt.mpr (Int.le_of_lt q), Int.not_lt.mpr (Int.le_of_lt r)]; done)
    | (simp [q, r, t, Int.not_lt.mpr (Int.le_of_lt q), Int.not_lt.mpr (Int.le_of_lt t)]; done)
    | (simp [q, r, t, Int.not_lt.mpr (Int.le_of_lt r), Int.not_lt.mpr (Int.le_of_lt t)]; done)
    | (simp [q, r, t, Int.not_lt.mpr (Int.le_of_lt q)]; done)
    | (simp [q, r, t, Int.not_lt.mpr (Int.le_of_lt r)]; done)
    | (simp [q, r, t, Int.not_lt.mpr (Int.le_of_lt t)]; done)
    | (exfalso
       have s1 : n * (a : Int) < 0 ∨ 0 < n * (a : Int) := by
         rcases Int.lt_or_gt_of_ne hn with t | t
         · exact Or.inl (Int.mul_neg_of_neg_of_pos t ha')
         · exact Or.inr (Int.mul_pos t ha')
       first
       | (have u := Int.mul_neg_of_neg_of_pos (Int.mul_neg_of_neg_of_pos q r) hb'; have v := Int.mul_pos t ha'; omega)
       | (have u := Int.mul_neg_of_neg_of_pos (Int.mul_neg_of_pos_of_neg q r) hb'; have v := Int.mul_pos t ha'; omega)
       | (have u := Int.mul_pos (Int.mul_pos q r) hb'; have v := Int.mul_neg_of_neg_of_pos t ha'; omega)
       | (have u := Int.mul_pos (Int.mul_pos_of_neg_of_neg q r) hb'; have v := Int.mul_neg_of_neg_of_pos t ha'; omega))
/-- an exact quotient: x / y = j / 2^i -/
theorem Dy.div {n m j k l i : Int} {x y : UInt64} (u v : Nat) (hx : Dy n k x) (hy : Dy m l y) (hm : m ≠ 0) (huv : (u : Int) - v = l + i - k) (hv : n * ((2 ^ u : Nat) : Int) = j * m * ((2 ^ v : Nat) : Int)) (hj : j.natAbs < 2 ^ 53) (hi : -900 ≤ i ∧ i ≤ 1000) : Dy j i (FP.ddiv x y) := by
  obtain ⟨s, e, hs⟩ := hx.quot hy hm
  unfold Dy
  rw [e]
  have hva : n.natAbs * 2 ^ u = j.natAbs * m.natAbs * 2 ^ v := by
    have := congrArg Int.natAbs hv
    rw [Int.natAbs_mul, Int.natAbs_mul, Int.natAbs_mul, Int.natAbs_natCast, Int.natAbs_natCast] at this
    exact this
  have e2 : roundRatio b64 s n.natAbs m.natAbs (l - k) = round b64 (.fin s j.natAbs (-i)) := by
    show _ = roundRatio b64 s j.natAbs 1 (-i)
    refine roundRatio_congr (by omega) (by decide) ?_
    rw [Nat.mul_one]
    have e3 : (l - k - -i).toNat + v = (-i - (l - k)).toNat + u := by omega
    apply Nat.eq_of_mul_eq_mul_right (Nat.two_pow_pos v)
    rw [Nat.mul_assoc, ← Nat.pow_add, e3, Nat.pow_add]
    generalize 2 ^ (-i - (l - k)).toNat = W
    calc n.natAbs * (W * 2 ^ u) = (n.natAbs * 2 ^ u) * W := by simp only [Nat.mul_assoc, Nat.mul_comm, Nat.mul_left_comm]
      _ = j.natAbs * m.natAbs * 2 ^ v * W := by rw [hva]
      _ = j.natAbs * m.natAbs * W * 2 ^ v := by simp only [Nat.mul_assoc, Nat.mul_comm, Nat.mul_left_comm]
  rw [e2]
  refine round_dy ?_ hj hi
  show signed s (j.natAbs * 2 ^ (-i + i).toNat) = j * ((2 ^ (-(-i + i)).toNat : Nat) : Int)
  rw [show (-i + i) = 0 by omega]
  simp only [Int.toNat_zero, Nat.pow_zero, Nat.mul_one, Int.neg_zero, Int.natCast_one, Int.mul_one]
  refine signed_natAbs fun h0 => ?_
  obtain ⟨hn, hsg⟩ := sgn_of_quot (c := 0) (Nat.two_pow_pos u) (Nat.two_pow_pos v) hm hv h0
  rw [hs hn, hsg]
end Jvm.Pilot.@@N@@.Dyad
namespace Jvm.Pilot.@@N@@
open Jvm Jvm.ClassFile Sem Op Lib Jvm.Free Jvm.Stand Jvm.LawKit Jvm.RoadKit Bundle Jvm.Pilot.@@N@@.Jvm.D
def own_K (p : Program) (e : Env) (below : List Frame) (A B : State) : Prop := ∀ t, Steps p.tables e below A t → Steps p.tables e below B t
theorem own_ifT_eq {x : Int32} (h : x = 0) : ifCond.holds .eq x = true := by simp [ifCond.holds, h]
theorem own_ifF_eq {x : Int32} (h : ¬ x = 0) : ifCond.holds .eq x = false := by simp [ifCond.holds, h]
theorem own_ifT_ne {x : Int32} (h : ¬ x = 0) : ifCond.holds .ne x = true := by simp [ifCond.holds, h]
theorem own_ifF_ne {x : Int32} (h : x = 0) : ifCond.holds .ne x = false := by simp [ifCond.holds, h]
theorem own_ifT_lt {x : Int32} (h : x < 0) : ifCond.holds .lt x = true := by simp [ifCond.holds, h]
theorem own_ifF_lt {x : Int32} (h : ¬ x < 0) : ifCond.holds .lt x = false := by simp [ifCond.holds, h]
theorem own_ifT_ge {x : Int32} (h : ¬ x < 0) : ifCond.holds .ge x = true := by simp [ifCond.holds, Int32.not_lt.mp h]
theorem own_ifF_ge {x : Int32} (h : x < 0) : ifCond.holds .ge x = false := by simp [ifCond.holds, Int32.not_le.mpr h]
theorem own_ifT_gt {x : Int32} (h : 0 < x) : ifCond.holds .gt x = true := by simp [ifCond.holds, h]
theorem own_ifF_gt {x : Int32} (h : ¬ 0 < x) : ifCond.holds .gt x = false := by simp [ifCond.holds, h]
theorem own_ifT_le {x : Int32} (h : ¬ 0 < x) : ifCond.holds .le x = true := by simp [ifCond.holds, Int32.not_lt.mp h]
theorem own_ifF_le {x : Int32} (h : 0 < x) : ifCond.holds .le x = false := by simp [ifCond.holds, Int32.not_le.mpr h]
theorem own_icT_eq {x y : Int32} (h : x = y) : if_icmp.holds .eq x y = true := by simp [if_icmp.holds, h]
theorem own_icF_eq {x y : Int32} (h : ¬ x = y) : if_icmp.holds .eq x y = false := by simp [if_icmp.holds, h]
theorem own_icT_ne {x y : Int32} (h : ¬ x = y) : if_icmp.holds .ne x y = true := by simp [if_icmp.holds, h]
theorem own_icF_ne {x y : Int32} (h : x = y) : if_icmp.holds .ne x y = false := by simp [if_icmp.holds, h]
theorem own_icT_lt {x y : Int32} (h : x < y) : if_icmp.holds .lt x y = true := by simp [if_icmp.holds, h]
theorem own_icF_lt {x y : Int32} (h : ¬ x < y) : if_icmp.holds .lt x y = false := by simp [if_icmp.holds, h]
theorem own_icT_ge {x y : Int32} (h : ¬ x < y) : if_icmp.holds .ge x y = true := by simp [if_icmp.holds, Int32.not_lt.mp h]
theorem own_icF_ge {x y : Int32} (h : x < y) : if_icmp.holds .ge x y = false := by simp [if_icmp.holds, Int32.not_le.mpr h]
theorem own_icT_gt {x y : Int32} (h : y < x) : if_icmp.holds .gt x y = true := by simp [if_icmp.holds, h]
theorem own_icF_gt {x y : Int32} (h : ¬ y < x) : if_icmp.holds .gt x y = false := by simp [if_icmp.holds, h]
theorem own_icT_le {x y : Int32} (h : ¬ y < x) : if_icmp.holds .le x y = true := by simp [if_icmp.holds, Int32.not_lt.mp h]
theorem own_icF_le {x y : Int32} (h : y < x) : if_icmp.holds .le x y = false := by simp [if_icmp.holds, Int32.not_le.mpr h]
theorem own_from {p : Program} {e : Env} {below : List Frame} {A B t : State} (h : B = A) (q : Steps p.tables e below B t) : Steps p.tables e below A t := h ▸ q
abbrev rO (f c s l : Nat) : Room := { frames := f, cells := c, slots := s, locals := l }
abbrev own_Met (l : Launch) (y : MethodName) (code : ByteArray) (ml : Nat) (ret : Option FieldType) (ws : List Jvm.Cond) (rm : Room) (as' : Array Value) (Z : State) (h0 : Heap) (Q : Option Value → Heap → List Loc → Prop) : Prop :=
  MetFree l y (head1 (Jvm.Cond.code y code ml ret :: ws) rm) (fun ar_ U => ar_ = as' ∧ Z.Warmed39 U.vm ∧ U.heap = h0) (fun _ _ _ _ _ => True) (fun _ U o U' => ∃ v L, o = .returned v ∧ Q v U'.heap L ∧ FrameEnd U o U' L rm.cells rm.slots)
theorem own_InsKeep {Z : State} {h h' : Heap} {b : Addr} {C : String} {bo : Bool} {ws : List Addr} (F : Ins Z h b C bo) (K : Keep h h' ws) (q : b ∉ ws) : Ins Z h' b C bo := by obtain ⟨cell, k, h1, r⟩ := F; exact ⟨cell, k, K.2.1 _ _ h1 q, r⟩
theorem wT {Z : State} {a0 : Array Value} (hw : ∀ d ∈ tables_1, d.before a0 Z = true) (i : Nat) {d : Jvm.Cond} (h : tables_1[i]? = some d) : d.before a0 Z = true := hw d (List.mem_of_getElem? h)
theorem own_mvNest {Z s : State} {a0 args : Array Value} {own host : String} {index : Nat} {y : MethodName} (hZ : Z.Warmed39 s.vm) (w : (Cond.methodLinkNest own index y host).before a0 Z = true) : (Cond.methodLinkNest own index y host).before args s = true := (Cond.methodLinkNest_wide hZ w :)
theorem own_pop2 {tb : Tables} [Ours tb] {e : Env} {below : List Frame} {T target : State} {m : MethodId} {c : Code} {g : JFrame} (h : At T m c below) (hx : tb.exec = Jvm.exec) (hg : g.method = m) {x : UInt64} {rest : List Value} (hd : decode c.code g.pc = .ok (.pop2, 1)) (hs : g.stack = .double x :: rest)
    (hr : Steps tb e below (T.setTop { g with pc := g.pc + 1, stack := rest }) target) : Steps tb e below (T.setTop g) target := by
  subst hg
  jvm_step h [h.top, hx, hd, hs, Value.category]
  exact hr
open Jvm.Pilot.@@N@@.Dyad
open Jvm.FP.Core (val64 zval zmag roundRatio b64 good_b64 val64_fits order_zval)
def own_o2 (d : UInt64) : Int32 := if cmpValue (FP.dcmp d FP.dconst0) .l < 0 then 0 else (if cmpValue (FP.dcmp d (4626576044695381606 : UInt64)) .g < 0 then 1 else 0)
theorem own_cmpz {x y : UInt64} (hx : val64 x ≠ .nan) (hy : val64 y ≠ .nan) (o : CmpOp) : (cmpValue (FP.dcmp x y) o < 0 ↔ zval b64 (val64 x) < zval b64 (val64 y)) := by
  have e : FP.dcmp x y = some (compare (zval b64 (val64 x)) (zval b64 (val64 y))) := order_zval good_b64 (val64_fits x) (val64_fits y) hx hy
  rw [e]
  generalize zval b64 (val64 x) = a
  generalize zval b64 (val64 y) = b
  by_cases h1 : a < b
  · rw [compare_lt h1]; simp [cmpValue, h1]
  · by_cases h2 : a = b
    · rw [compare_eq h2]; simp [cmpValue, h2]
    · rw [compare_gt (by omega)]; simp [cmpValue, h1]
theorem own_o2_of {d : UInt64} (hd : val64 d ≠ .nan) : own_o2 d = if 0 ≤ zval b64 (val64 d) ∧ zval b64 (val64 d) < zval b64 (val64 (4626576044695381606 : UInt64)) then 1 else 0 := by
  unfold own_o2
  have z0 : zval b64 (val64 FP.dconst0) = 0 := by decide +kernel
  have h1 := own_cmpz hd (y := FP.dconst0) (by decide +kernel) .l
  have h2 := own_cmpz hd (y := (4626576044695381606 : UInt64)) (by decide +kernel) .g
  rw [z0] at h1
  simp only [h1, h2]
  by_cases q : zval b64 (val64 d) < 0
  · rw [if_pos q, if_neg (by omega)]
  · rw [if_neg q]
    by_cases r : zval b64 (val64 d) < zval b64 (val64 (4626576044695381606 : UInt64))
    · rw [if_pos r, if_pos ⟨by omega, r⟩]
    · rw [if_neg r, if_neg (fun t => r t.2)]
theorem own_l2d_ne (l : Int64) : val64 (FP.l2d l) ≠ .nan := (Jvm.FP.Core.l2d_fin l).ne_nan
theorem own_m0_1 (l : Int64) (h1 : 0 ≤ l.toInt) (h2 : l.toInt ≤ 20) : own_o2 (FP.l2d l) = 1 := by
  rw [own_o2_of (own_l2d_ne l), if_pos]
  have p : (0 : Int) < (Jvm.FP.Core.one64 : Int) := by decide +kernel
  constructor
  · have := Jvm.FP.Core.l2d_zval_ge (n := l) (V := 0) (by decide +kernel) (by
      rw [show zval b64 (val64 (0 : UInt64)) = 0 by decide +kernel]; exact Int.mul_nonneg h1 (Int.le_of_lt p))
    rw [show zval b64 (val64 (0 : UInt64)) = 0 by decide +kernel] at this
    exact this
  · have := Jvm.FP.Core.l2d_zval_le (n := l) (V := 4626322717216342016) (by decide +kernel) (by
      rw [show zval b64 (val64 (4626322717216342016 : UInt64)) = 20 * (Jvm.FP.Core.one64 : Int) by decide +kernel]
      exact Int.mul_le_mul_of_nonneg_right h2 (Int.le_of_lt p))
    exact Int.lt_of_le_of_lt this (by decide +kernel)
theorem own_m0_0 (l : Int64) (h : l.toInt < 0 ∨ 20 < l.toInt) : own_o2 (FP.l2d l) = 0 := by
  rw [own_o2_of (own_l2d_ne l), if_neg]
  have p : (0 : Int) < (Jvm.FP.Core.one64 : Int) := by decide +kernel
  rintro ⟨q1, q2⟩
  rcases h with h | h
  · have := Jvm.FP.Core.l2d_zval_le (n := l) (V := 13830554455654793216) (by decide +kernel) (by
      rw [show zval b64 (val64 (13830554455654793216 : UInt64)) = (-1) * (Jvm.FP.Core.one64 : Int) by decide +kernel]
      exact Int.mul_le_mul_of_nonneg_right (by omega) (Int.le_of_lt p))
    have r : zval b64 (val64 (13830554455654793216 : UInt64)) < 0 := by decide +kernel
    exact absurd (Int.le_trans q1 this) (Int.not_le.mpr r)
  · have := Jvm.FP.Core.l2d_zval_ge (n := l) (V := 4626604192193052672) (by decide +kernel) (by
      rw [show zval b64 (val64 (4626604192193052672 : UInt64)) = 21 * (Jvm.FP.Core.one64 : Int) by decide +kernel]
      exact Int.mul_le_mul_of_nonneg_right (by omega) (Int.le_of_lt p))
    have r : zval b64 (val64 (4626576044695381606 : UInt64)) < zval b64 (val64 (4626604192193052672 : UInt64)) := by decide +kernel
    exact absurd (Int.lt_of_lt_of_le r this) (Int.not_lt.mpr (Int.le_of_lt q2))
def own_U : Nat := 2 ^ 1074
theorem own_unit (n : Nat) : Jvm.FP.Core.inUnits n 0 b64.qmin = n * own_U := by
  unfold Jvm.FP.Core.inUnits; rw [Jvm.FP.Core.qmin_b64]; rfl
/-- a / B for a small whole B: below, above and by the sign -/
theorem own_q (a : Int32) (B : Nat) (hB : 0 < B) (hB2 : B ≤ 1000) {y : UInt64} (hy : Dy (B : Int) 0 y) : ∃ s, val64 (FP.ddiv (FP.i2d a) y) = roundRatio b64 s a.toInt.natAbs B 0 ∧ (a.toInt ≠ 0 → s = decide (a.toInt < 0)) := by
  obtain ⟨s, e, hs⟩ := (Dy.i2d a).quot hy (by omega)
  refine ⟨s, ?_, fun h => ?_⟩
  · rw [e, Int.natAbs_natCast]; rfl
  · rw [hs h]; have : ¬ ((B : Int) < 0) := by omega
    simp [this]
theorem own_q_ne (a : Int32) (B : Nat) (hB : 0 < B) (hB2 : B ≤ 1000) {y : UInt64} (hy : Dy (B : Int) 0 y) : val64 (FP.ddiv (FP.i2d a) y) ≠ .nan := by
  obtain ⟨s, e, -⟩ := own_q a B hB hB2 hy
  rw [e]; exact Jvm.FP.Core.roundRatio_ne_nan _ _ _ _ _
theorem own_q_no (a : Int32) (B : Nat) (hB : 0 < B) (hB2 : B ≤ 1000) {y : UInt64} (hy : Dy (B : Int) 0 y) : Jvm.Free.Fl.NoNaN64 (FP.ddiv (FP.i2d a) y) := Jvm.Free.Fl.val64_no.mpr (own_q_ne a B hB hB2 hy)
theorem own_zr (s : Bool) (A B : Nat) : zval b64 (roundRatio b64 s A B 0) = Jvm.FP.Core.signed s (zmag b64 (roundRatio b64 s A B 0)) := by
  unfold zval; rw [Jvm.FP.Core.sgn_roundRatio]
theorem own_q_1 (a : Int32) (B N : Nat) (hB : 0 < B) (hB2 : B ≤ 1000) {y : UInt64} (hy : Dy (B : Int) 0 y) (h1 : 0 ≤ a.toInt) (h2 : a.toInt ≤ N) (hN : N * own_U ≤ zmag b64 (val64 (4626576044695381605 : UInt64)) * 1 * B) : own_o2 (FP.ddiv (FP.i2d a) y) = 1 := by
  rw [own_o2_of (own_q_ne a B hB hB2 hy), if_pos]
  obtain ⟨s, e, hs⟩ := own_q a B hB hB2 hy
  have le := Jvm.FP.Core.zmag_roundRatio_le good_b64 (s := s) (A := a.toInt.natAbs) (B := B) (e := 0) (e0 := b64.qmin) (V := val64 (4626576044695381605 : UInt64)) hB (val64_fits _) (by decide +kernel) (Int.le_refl _) (by rw [Jvm.FP.Core.qmin_b64]; decide) (by
    rw [own_unit, Int.sub_self, show (2 ^ (0 : Int).toNat : Nat) = 1 from rfl]; exact Nat.le_trans (Nat.mul_le_mul_right _ (by clear hN; omega)) hN)
  rw [e, own_zr]
  have lt : (zmag b64 (val64 (4626576044695381605 : UInt64)) : Int) < zval b64 (val64 (4626576044695381606 : UInt64)) := by decide +kernel
  by_cases h0 : a.toInt = 0
  · have z : zmag b64 (roundRatio b64 s a.toInt.natAbs B 0) = 0 := by rw [h0]; cases s <;> (simp [roundRatio, zmag, Jvm.FP.Core.inUnits])
    rw [z, Jvm.FP.Core.signed_zero]
    exact ⟨Int.le_refl _, by decide +kernel⟩
  · rw [hs h0, decide_eq_false (by omega : ¬ a.toInt < 0)] at *
    show 0 ≤ ((zmag b64 (roundRatio b64 false a.toInt.natAbs B 0) : Nat) : Int) ∧ ((zmag b64 (roundRatio b64 false a.toInt.natAbs B 0) : Nat) : Int) < _
    exact ⟨Int.natCast_nonneg _, Int.lt_of_le_of_lt (Int.ofNat_le.mpr le) lt⟩
theorem own_q_0 (a : Int32) (B N : Nat) (hB : 0 < B) (hB2 : B ≤ 1000) {y : UInt64} (hy : Dy (B : Int) 0 y) (h : a.toInt < 0 ∨ N ≤ a.toInt) (hN : zmag b64 (val64 (4626576044695381606 : UInt64)) * 1 * B ≤ N * own_U) (hP : zmag b64 (val64 (4562254508917369340 : UInt64)) * 1 * B ≤ 1 * own_U) : own_o2 (FP.ddiv (FP.i2d a) y) = 0 := by
  rw [own_o2_of (own_q_ne a B hB hB2 hy), if_neg]
  obtain ⟨s, e, hs⟩ := own_q a B hB hB2 hy
  rw [e, own_zr]
  rintro ⟨q1, q2⟩
  rcases h with h | h
  · have ge := Jvm.FP.Core.zmag_roundRatio_ge good_b64 (s := s) (A := a.toInt.natAbs) (B := B) (e := 0) (e0 := b64.qmin) (V := val64 (4562254508917369340 : UInt64)) hB (val64_fits _) (Int.le_refl _) (by rw [Jvm.FP.Core.qmin_b64]; decide) (by
      rw [own_unit, Int.sub_self, show (2 ^ (0 : Int).toNat : Nat) = 1 from rfl]; exact Nat.le_trans hP (Nat.mul_le_mul_right _ (by clear hN hP; omega)))
    have p : 0 < zmag b64 (val64 (4562254508917369340 : UInt64)) := by decide +kernel
    rw [hs (by omega), decide_eq_true h] at q1 ge
    have q1' : 0 ≤ -((zmag b64 (roundRatio b64 true a.toInt.natAbs B 0) : Nat) : Int) := q1
    omega
  · have ge := Jvm.FP.Core.zmag_roundRatio_ge good_b64 (s := s) (A := a.toInt.natAbs) (B := B) (e := 0) (e0 := b64.qmin) (V := val64 (4626576044695381606 : UInt64)) hB (val64_fits _) (Int.le_refl _) (by rw [Jvm.FP.Core.qmin_b64]; decide) (by
      rw [own_unit, Int.sub_self, show (2 ^ (0 : Int).toNat : Nat) = 1 from rfl]; exact Nat.le_trans hN (Nat.mul_le_mul_right _ (by clear hN hP; omega)))
    by_cases h0 : a.toInt = 0
    · have z : N = 0 := by omega
      rw [z, Nat.zero_mul] at hN
      exact absurd hN (Nat.not_le.mpr (Nat.mul_pos (by decide +kernel) hB))
    · rw [hs h0, decide_eq_false (by omega : ¬ a.toInt < 0)] at q2 ge
      have q2' : ((zmag b64 (roundRatio b64 false a.toInt.natAbs B 0) : Nat) : Int) < zval b64 (val64 (4626576044695381606 : UInt64)) := q2
      have e3 : zval b64 (val64 (4626576044695381606 : UInt64)) = (zmag b64 (val64 (4626576044695381606 : UInt64)) : Int) := by decide +kernel
      rw [e3] at q2'
      exact absurd (Int.ofNat_lt.mp q2') (Nat.not_lt.mpr ge)
theorem own_ten : Dy ((10 : Nat) : Int) 0 (4621819117588971520 : UInt64) := Dy.lit (n := 10) (by decide +kernel) rfl (by decide)
theorem own_hun : Dy ((100 : Nat) : Int) 0 (4636737291354636288 : UInt64) := Dy.lit (n := 100) (by decide +kernel) rfl (by decide)
theorem own_zero : Dy 0 0 FP.dconst0 := Dy.lit (n := 0) (by decide +kernel) rfl (by decide)
theorem own_lt0 (a : Int32) : a < 0 ↔ a.toInt < 0 := by rw [Int32.lt_iff_toInt_lt]; rfl
theorem own_lt (a b : Int32) : a < b ↔ a.toInt < b.toInt := Int32.lt_iff_toInt_lt
theorem own_m1_1 (a : Int32) (h1 : ¬ a < 0) (h2 : ¬ (208 : Int32) < a) : own_o2 (FP.ddiv (FP.i2d a) (4621819117588971520 : UInt64)) = 1 := by
  rw [own_lt, show (0 : Int32).toInt = 0 from rfl] at h1; rw [own_lt, show (208 : Int32).toInt = 208 from rfl] at h2
  exact own_q_1 a 10 208 (by decide) (by decide) own_ten (by omega) (by omega) (by decide +kernel)
theorem own_m1_0 (a : Int32) (h : a < 0 ∨ (208 : Int32) < a) : own_o2 (FP.ddiv (FP.i2d a) (4621819117588971520 : UInt64)) = 0 := by
  rw [own_lt, own_lt, show (0 : Int32).toInt = 0 from rfl, show (208 : Int32).toInt = 208 from rfl] at h
  exact own_q_0 a 10 209 (by decide) (by decide) own_ten (by omega) (by decide +kernel) (by decide +kernel)
theorem own_m2_1 (a : Int32) (h1 : ¬ a < 0) (h2 : ¬ (2089 : Int32) < a) : own_o2 (FP.ddiv (FP.i2d a) (4636737291354636288 : UInt64)) = 1 := by
  rw [own_lt, show (0 : Int32).toInt = 0 from rfl] at h1; rw [own_lt, show (2089 : Int32).toInt = 2089 from rfl] at h2
  exact own_q_1 a 100 2089 (by decide) (by decide) own_hun (by omega) (by omega) (by decide +kernel)
theorem own_m2_0 (a : Int32) (h : a < 0 ∨ (2089 : Int32) < a) : own_o2 (FP.ddiv (FP.i2d a) (4636737291354636288 : UInt64)) = 0 := by
  rw [own_lt, own_lt, show (0 : Int32).toInt = 0 from rfl, show (2089 : Int32).toInt = 2089 from rfl] at h
  exact own_q_0 a 100 2090 (by decide) (by decide) own_hun (by omega) (by decide +kernel) (by decide +kernel)
theorem own_m3_dy (a : Int32) : Dy 0 0 (FP.dmul FP.dconst0 (FP.i2d a)) := by
  have := own_zero.mul (Dy.i2d a) (by rw [Int.zero_mul]; decide) (by decide)
  rw [Int.zero_mul] at this; exact this
theorem own_m3_1 (a : Int32) : own_o2 (FP.dmul FP.dconst0 (FP.i2d a)) = 1 := by
  unfold own_o2
  rw [(own_m3_dy a).eq own_zero rfl]
  have c : Dy 0 0 FP.dconst0 := own_zero
  have h := own_cmpz (own_m3_dy a).ne_nan (y := (4626576044695381606 : UInt64)) (by decide +kernel) .g
  have z : zval b64 (val64 (FP.dmul FP.dconst0 (FP.i2d a))) = 0 := by
    obtain ⟨s, c, q, e, w⟩ := (own_m3_dy a).fin
    have c0 : c = 0 := (Jvm.FP.Core.whole_zero w).mpr rfl
    rw [e, c0]; cases s <;> (simp [zval, zmag, Jvm.FP.Core.sgn, Jvm.FP.Core.inUnits, Jvm.FP.Core.signed])
  rw [z] at h
  rw [if_neg (by decide), if_pos (h.mpr (by decide +kernel))]
theorem own_cmpL_lt (x y : Int64) : lcmpW x y < 0 ↔ x.toInt < y.toInt := by
  unfold lcmpW
  rw [← Int64.lt_iff_toInt_lt]
  by_cases h1 : y < x
  · have : ¬ x < y := by rw [Int64.lt_iff_toInt_lt] at *; omega
    simp [h1, this]
  · by_cases h2 : x = y
    · subst h2; simp [h1]
    · have : x < y := by rw [Int64.lt_iff_toInt_lt] at *; rw [← Int64.toInt_inj] at h2; omega
      simp [h1, h2, this]
theorem own_cmpL_gt (x y : Int64) : 0 < lcmpW x y ↔ y.toInt < x.toInt := by
  unfold lcmpW
  rw [← Int64.lt_iff_toInt_lt]
  by_cases h1 : y < x
  · simp [h1]
  · by_cases h2 : x = y
    · subst h2; simp [h1]
    · simp [h1, h2]
theorem own_m0_1' (l : Int64) (h1 : ¬ lcmpW l (0 : Int64) < 0) (h2 : ¬ 0 < lcmpW l (20 : Int64)) : own_o2 (FP.l2d l) = 1 := by
  rw [own_cmpL_lt, show (0 : Int64).toInt = 0 from rfl] at h1; rw [own_cmpL_gt, show (20 : Int64).toInt = 20 from rfl] at h2
  exact own_m0_1 l (by omega) (by omega)
theorem own_m0_0' (l : Int64) (h : lcmpW l (0 : Int64) < 0 ∨ 0 < lcmpW l (20 : Int64)) : own_o2 (FP.l2d l) = 0 := by
  rw [own_cmpL_lt, own_cmpL_gt, show (0 : Int64).toInt = 0 from rfl, show (20 : Int64).toInt = 20 from rfl] at h
  exact own_m0_0 l h

def QA (d : UInt64) (h0 : Heap) (n0 : Nat) (v : Option Value) (h : Heap) (L : List Loc) : Prop := v = some (.int (own_o2 d)) ∧ Fr n0 L ∧ h = h0
theorem own_h1 : decode prog_34_method_13_code 0 = .ok (.dload_n 0, 1) := by decide +kernel
theorem own_h2 : decode prog_34_method_13_code 1 = .ok (.dconst 0, 1) := by decide +kernel
theorem own_h3 : decode prog_34_method_13_code 2 = .ok (.dcmp .l, 1) := by decide +kernel
theorem own_h4 : decode prog_34_method_13_code 3 = .ok (.ifCond .lt 15, 3) := by decide +kernel
theorem own_h5 : decode prog_34_method_13_code 6 = .ok (.dload_n 0, 1) := by decide +kernel
theorem own_h6 : decode prog_34_method_13_code 7 = .ok (.ldc2_w 62, 3) := by decide +kernel
theorem own_h7 : decode prog_34_method_13_code 10 = .ok (.dcmp .g, 1) := by decide +kernel
theorem own_h8 : decode prog_34_method_13_code 11 = .ok (.ifCond .ge 7, 3) := by decide +kernel
theorem own_h9 : decode prog_34_method_13_code 14 = .ok (.iconst 1, 1) := by decide +kernel
theorem own_h10 : decode prog_34_method_13_code 15 = .ok (.goto 4, 3) := by decide +kernel
theorem own_h11 : decode prog_34_method_13_code 18 = .ok (.iconst 0, 1) := by decide +kernel
theorem own_h12 : decode prog_34_method_13_code 19 = .ok (.ireturn, 1) := by decide +kernel
theorem own_h13 : plainName "com/example/flueline/flueline/Method19" = true := by first | (simp [plainName, overriddenIn]; done) | decide +kernel
theorem own_h14 : parseMethodDescriptor "(D)Z" = some ⟨[.double], some .boolean⟩ := by decide +kernel
set_option maxRecDepth 65536 in
set_option maxHeartbeats 40000000 in
theorem rmA (l : Launch) (Z : State) (a0 : Array Value) (hw : ∀ d ∈ tables_1, d.before a0 Z = true) (ws : List Jvm.Cond) (d : UInt64) (h0 : Heap) (n0 : Nat) (Z0 : n0 ≤ h0.size) :
    MetFree l (⟨"com/example/flueline/flueline/Method19", "isPossibleOxygen", "(D)Z"⟩ : MethodName) (head1 (Jvm.Cond.code (⟨"com/example/flueline/flueline/Method19", "isPossibleOxygen", "(D)Z"⟩ : MethodName) prog_34_method_13_code 2 (some .boolean) :: ws) ({ frames := 0, cells := 0, slots := 0, locals := 0 } : Room)) (fun ar_ U => ar_ = #[(.double d)] ∧ Z.Warmed39 U.vm ∧ U.heap = h0) (fun _ _ _ _ _ => True) (fun _ U o U' => ∃ v L, o = .returned v ∧ QA d h0 n0 v U'.heap L ∧ FrameEnd U o U' L ({ frames := 0, cells := 0, slots := 0, locals := 0 } : Room).cells ({ frames := 0, cells := 0, slots := 0, locals := 0 } : Room).slots) := by
  refine MetFree.of_bodySF (plainFor_of_name own_h13) hisR ?_
  intro p e s m args below meth c s₁ Bd hml0 hP hK
  obtain ⟨rfl, hZ, hh⟩ := hP
  have hx := Bd.exec
  have hby := Bd.bytes
  have hml : c.maxLocals = 2 := hml0
  have hown : s.vm.findClass "com/example/flueline/flueline/Method19" = some m.cls := findClass_of_methodNamed Bd.named
  have hnm := (name_of_methodNamed Bd.named Bd.method).1
  have X0 : Stand p l e ({ frames := 0, cells := 0, slots := 0, locals := 0 } : Room) s m #[(.double d)] below meth c s₁ [] 0 0 := Stand.of_body Bd
  have e0 : s₁.heap = h0 := by rw [← hh, Bd.state]; rfl
  have N0 := Fr.nil n0
  have k0 : own_K p e below (s₁.setTop (mkF m 0 #[.val (.double d), .second] [])) (s₁.setTop (entryFrame m #[(.double d)] 2)) := fun t k => castTop (by clear k; first | (simp [entryFrame, mkF, argsToLocals, Value.category, maxLocals]; done) | rfl) k
  have k1 : own_K p e below (s₁.setTop (mkF m 3 #[.val (.double d), .second] [(.int (cmpValue (FP.dcmp d FP.dconst0) .l))])) (s₁.setTop (entryFrame m #[(.double d)] 2)) := fun t hh => k0 t (by
    refine XS.dloadN X0.here hx rfl (hb hby own_h1) rfl ?_
    show Steps p.tables e below (s₁.setTop (mkF m 1 #[.val (.double d), .second] [(.double d)])) _
    refine XS.dconst0 X0.here hx rfl (hb hby own_h2) rfl ?_
    show Steps p.tables e below (s₁.setTop (mkF m 2 #[.val (.double d), .second] [(.double FP.dconst0), (.double d)])) _
    refine XS.dcmpS X0.here hx rfl (hb hby own_h3) rfl rfl ?_
    show Steps p.tables e below (s₁.setTop (mkF m 3 #[.val (.double d), .second] [(.int (cmpValue (FP.dcmp d FP.dconst0) .l))])) _
    exact hh)
  by_cases c3 : (cmpValue (FP.dcmp d FP.dconst0) .l) < 0
  ·
    have k2 : own_K p e below (s₁.setTop (mkF m 19 #[.val (.double d), .second] [(.int (0 : Int32))])) (s₁.setTop (entryFrame m #[(.double d)] 2)) := fun t hh => k1 t (by
      refine XS.ifYes X0.here hx rfl (pc0 := 3) (pc' := 18) rfl (hb hby own_h4) rfl (own_ifT_lt c3) (by decide) (by decide) ?_
      show Steps p.tables e below (s₁.setTop (mkF m 18 #[.val (.double d), .second] [])) _
      refine XS.iconst X0.here hx rfl (hb hby own_h11) ?_
      show Steps p.tables e below (s₁.setTop (mkF m 19 #[.val (.double d), .second] [(.int (0 : Int32))])) _
      exact hh)
    obtain ⟨fs, hr, hrun, hended, hW, hsame⟩ := X0.leave (v := some (.int (0 : Int32))) (fun h => by rw [Bd.returns] at h; cases h)
    refine ⟨_, _, k2 _ (retN X0 hx (t := .boolean) Bd.returns (by simp) (hb hby own_h12) hr), hrun, hended, _, _, rfl, ?_, ⟨_, rfl⟩, hW, hsame.mono (by decide) (by decide)⟩
    show QA d h0 n0 _ s₁.heap _
    rw [e0]
    exact ⟨by simp [own_o2, c3], N0, rfl⟩
  ·
    have k3 : own_K p e below (s₁.setTop (mkF m 11 #[.val (.double d), .second] [(.int (cmpValue (FP.dcmp d (4626576044695381606 : UInt64)) .g))])) (s₁.setTop (entryFrame m #[(.double d)] 2)) := fun t hh => k1 t (by
      refine XS.ifNo X0.here hx rfl (hb hby own_h4) rfl (own_ifF_lt c3) ?_
      show Steps p.tables e below (s₁.setTop (mkF m 6 #[.val (.double d), .second] [])) _
      refine XS.dloadN X0.here hx rfl (hb hby own_h5) rfl ?_
      show Steps p.tables e below (s₁.setTop (mkF m 7 #[.val (.double d), .second] [(.double d)])) _
      refine X0.ldc2DoubleC hx hown (mvT hZ (wT hw 5 rfl)) (g := (mkF m 7 #[.val (.double d), .second] [(.double d)])) rfl (hb hby own_h6) _ ?_
      show Steps p.tables e below (s₁.setTop (mkF m 10 #[.val (.double d), .second] [(.double (4626576044695381606 : UInt64)), (.double d)])) _
      refine XS.dcmpS X0.here hx rfl (hb hby own_h7) rfl rfl ?_
      show Steps p.tables e below (s₁.setTop (mkF m 11 #[.val (.double d), .second] [(.int (cmpValue (FP.dcmp d (4626576044695381606 : UInt64)) .g))])) _
      exact hh)
    by_cases c11 : (cmpValue (FP.dcmp d (4626576044695381606 : UInt64)) .g) < 0
    ·
      have k4 : own_K p e below (s₁.setTop (mkF m 19 #[.val (.double d), .second] [(.int (1 : Int32))])) (s₁.setTop (entryFrame m #[(.double d)] 2)) := fun t hh => k3 t (by
        refine XS.ifNo X0.here hx rfl (hb hby own_h8) rfl (own_ifF_ge c11) ?_
        show Steps p.tables e below (s₁.setTop (mkF m 14 #[.val (.double d), .second] [])) _
        refine XS.iconst X0.here hx rfl (hb hby own_h9) ?_
        show Steps p.tables e below (s₁.setTop (mkF m 15 #[.val (.double d), .second] [(.int (1 : Int32))])) _
        refine XS.goto X0.here hx rfl (pc0 := 15) (pc' := 19) rfl (hb hby own_h10) (by decide) (by decide) ?_
        show Steps p.tables e below (s₁.setTop (mkF m 19 #[.val (.double d), .second] [(.int (1 : Int32))])) _
        exact hh)
      obtain ⟨fs, hr, hrun, hended, hW, hsame⟩ := X0.leave (v := some (.int (1 : Int32))) (fun h => by rw [Bd.returns] at h; cases h)
      refine ⟨_, _, k4 _ (retN X0 hx (t := .boolean) Bd.returns (by simp) (hb hby own_h12) hr), hrun, hended, _, _, rfl, ?_, ⟨_, rfl⟩, hW, hsame.mono (by decide) (by decide)⟩
      show QA d h0 n0 _ s₁.heap _
      rw [e0]
      exact ⟨by simp [own_o2, c3, c11], N0, rfl⟩
    ·
      have k5 : own_K p e below (s₁.setTop (mkF m 19 #[.val (.double d), .second] [(.int (0 : Int32))])) (s₁.setTop (entryFrame m #[(.double d)] 2)) := fun t hh => k3 t (by
        refine XS.ifYes X0.here hx rfl (pc0 := 11) (pc' := 18) rfl (hb hby own_h8) rfl (own_ifT_ge c11) (by decide) (by decide) ?_
        show Steps p.tables e below (s₁.setTop (mkF m 18 #[.val (.double d), .second] [])) _
        refine XS.iconst X0.here hx rfl (hb hby own_h11) ?_
        show Steps p.tables e below (s₁.setTop (mkF m 19 #[.val (.double d), .second] [(.int (0 : Int32))])) _
        exact hh)
      obtain ⟨fs, hr, hrun, hended, hW, hsame⟩ := X0.leave (v := some (.int (0 : Int32))) (fun h => by rw [Bd.returns] at h; cases h)
      refine ⟨_, _, k5 _ (retN X0 hx (t := .boolean) Bd.returns (by simp) (hb hby own_h12) hr), hrun, hended, _, _, rfl, ?_, ⟨_, rfl⟩, hW, hsame.mono (by decide) (by decide)⟩
      show QA d h0 n0 _ s₁.heap _
      rw [e0]
      exact ⟨by simp [own_o2, c3, c11], N0, rfl⟩
def QL (h0 : Heap) (n0 : Nat) (v : Option Value) (h : Heap) (L : List Loc) : Prop := v = some (.int 1) ∧ Fr n0 L
theorem own_h15 : plainName "com/example/flueline/flueline/Method19IsPossibleOxygenPinLaw" = true := by first | (simp [plainName, overriddenIn]; done) | decide +kernel
set_option maxRecDepth 65536 in
set_option maxHeartbeats 40000000 in
theorem rmL (l : Launch) (Z : State) (a0 : Array Value) (hw : ∀ d ∈ tables_1, d.before a0 Z = true) (ws : List Jvm.Cond) (a : Int32) (lv : Int64) (m_ : Int32) (h0 : Heap) (n0 : Nat) (Z0 : n0 ≤ h0.size) :
    MetFree l x (head1 (Jvm.Cond.code x code maxLocals ret :: ws) room_1) (fun ar_ U => ar_ = #[(.int a), (.long lv), (.int m_)] ∧ Z.Warmed39 U.vm ∧ U.heap = h0) (fun _ _ _ _ _ => True) (fun _ U o U' => ∃ v L, o = .returned v ∧ QL h0 n0 v U'.heap L ∧ FrameEnd U o U' L 0 0) := by
  refine MetFree.of_bodySF (plainFor_of_name own_h15) hisR ?_
  intro p e s m args below meth c s₁ Bd hml0 hP hK
  obtain ⟨rfl, hZ, hh⟩ := hP
  have hx := Bd.exec
  have hby := Bd.bytes
  have hml : c.maxLocals = 8 := hml0
  have hown : s.vm.findClass "com/example/flueline/flueline/Method19IsPossibleOxygenPinLaw" = some m.cls := findClass_of_methodNamed Bd.named
  have hnm := (name_of_methodNamed Bd.named Bd.method).1
  have X0 : Stand p l e room_1 s m #[(.int a), (.long lv), (.int m_)] below meth c s₁ [] 0 0 := Stand.of_body Bd
  have e0 : s₁.heap = h0 := by rw [← hh, Bd.state]; rfl
  have N0 := Fr.nil n0
  have k0 : own_K p e below (s₁.setTop (mkF m 0 #[.val (.int a), .val (.long lv), .second, .val (.int m_), .unset, .unset, .unset, .unset] [])) (s₁.setTop (entryFrame m #[(.int a), (.long lv), (.int m_)] maxLocals)) := fun t k => castTop (by clear k; first | (simp [entryFrame, mkF, argsToLocals, Value.category, maxLocals]; done) | rfl) k
  have k1 : own_K p e below (s₁.setTop (mkF m 7 #[.val (.int a), .val (.long lv), .second, .val (.int m_), .val (.int (m_ &&& (3 : Int32))), .unset, .unset, .unset] [(.int (m_ &&& (3 : Int32)))])) (s₁.setTop (entryFrame m #[(.int a), (.long lv), (.int m_)] maxLocals)) := fun t hh => k0 t (by
    refine XS.iloadN X0.here hx rfl (hb hby at_0) rfl ?_
    show Steps p.tables e below (s₁.setTop (mkF m 1 #[.val (.int a), .val (.long lv), .second, .val (.int m_), .unset, .unset, .unset, .unset] [(.int m_)])) _
    refine XS.iconst X0.here hx rfl (hb hby at_1) ?_
    show Steps p.tables e below (s₁.setTop (mkF m 2 #[.val (.int a), .val (.long lv), .second, .val (.int m_), .unset, .unset, .unset, .unset] [(.int (3 : Int32)), (.int m_)])) _
    refine XS.iand X0.here hx rfl (hb hby at_2) rfl ?_
    show Steps p.tables e below (s₁.setTop (mkF m 3 #[.val (.int a), .val (.long lv), .second, .val (.int m_), .unset, .unset, .unset, .unset] [(.int (m_ &&& (3 : Int32)))])) _
    refine XS.istore X0.here hx rfl (hb hby at_3) rfl (l' := #[.val (.int a), .val (.long lv), .second, .val (.int m_), .val (.int (m_ &&& (3 : Int32))), .unset, .unset, .unset]) rfl ?_
    show Steps p.tables e below (s₁.setTop (mkF m 5 #[.val (.int a), .val (.long lv), .second, .val (.int m_), .val (.int (m_ &&& (3 : Int32))), .unset, .unset, .unset] [])) _
    refine XS.iload X0.here hx rfl (hb hby at_5) rfl ?_
    show Steps p.tables e below (s₁.setTop (mkF m 7 #[.val (.int a), .val (.long lv), .second, .val (.int m_), .val (.int (m_ &&& (3 : Int32))), .unset, .unset, .unset] [(.int (m_ &&& (3 : Int32)))])) _
    exact hh)
  by_cases c7 : (m_ &&& (3 : Int32)) = 0
  ·
    have k2 : own_K p e below (s₁.setTop (mkF m 17 #[.val (.int a), .val (.long lv), .second, .val (.int m_), .val (.int (m_ &&& (3 : Int32))), .val (.double (FP.l2d lv)), .second, .unset] [(.int (lcmpW lv (0 : Int64)))])) (s₁.setTop (entryFrame m #[(.int a), (.long lv), (.int m_)] maxLocals)) := fun t hh => k1 t (by
      refine XS.ifNo X0.here hx rfl (hb hby at_7) rfl (own_ifF_ne c7) ?_
      show Steps p.tables e below (s₁.setTop (mkF m 10 #[.val (.int a), .val (.long lv), .second, .val (.int m_), .val (.int (m_ &&& (3 : Int32))), .unset, .unset, .unset] [])) _
      refine XS.lloadN X0.here hx rfl (hb hby at_10) rfl ?_
      show Steps p.tables e below (s₁.setTop (mkF m 11 #[.val (.int a), .val (.long lv), .second, .val (.int m_), .val (.int (m_ &&& (3 : Int32))), .unset, .unset, .unset] [(.long lv)])) _
      refine XS.l2dS X0.here hx rfl (hb hby at_11) rfl rfl ?_
      show Steps p.tables e below (s₁.setTop (mkF m 12 #[.val (.int a), .val (.long lv), .second, .val (.int m_), .val (.int (m_ &&& (3 : Int32))), .unset, .unset, .unset] [(.double (FP.l2d lv))])) _
      refine XS.dstore X0.here hx rfl (hb hby at_12) rfl (l' := #[.val (.int a), .val (.long lv), .second, .val (.int m_), .val (.int (m_ &&& (3 : Int32))), .val (.double (FP.l2d lv)), .second, .unset]) rfl ?_
      show Steps p.tables e below (s₁.setTop (mkF m 14 #[.val (.int a), .val (.long lv), .second, .val (.int m_), .val (.int (m_ &&& (3 : Int32))), .val (.double (FP.l2d lv)), .second, .unset] [])) _
      refine XS.lloadN X0.here hx rfl (hb hby at_14) rfl ?_
      show Steps p.tables e below (s₁.setTop (mkF m 15 #[.val (.int a), .val (.long lv), .second, .val (.int m_), .val (.int (m_ &&& (3 : Int32))), .val (.double (FP.l2d lv)), .second, .unset] [(.long lv)])) _
      refine XS.lconst X0.here hx rfl (hb hby at_15) ?_
      show Steps p.tables e below (s₁.setTop (mkF m 16 #[.val (.int a), .val (.long lv), .second, .val (.int m_), .val (.int (m_ &&& (3 : Int32))), .val (.double (FP.l2d lv)), .second, .unset] [(.long (0 : Int64)), (.long lv)])) _
      refine XS.lcmp X0.here hx rfl (hb hby at_16) rfl ?_
      show Steps p.tables e below (s₁.setTop (mkF m 17 #[.val (.int a), .val (.long lv), .second, .val (.int m_), .val (.int (m_ &&& (3 : Int32))), .val (.double (FP.l2d lv)), .second, .unset] [(.int (lcmpW lv (0 : Int64)))])) _
      exact hh)
    by_cases c17 : (lcmpW lv (0 : Int64)) < 0
    ·
      have k3 : own_K p e below (s₁.setTop (mkF m 119 #[.val (.int a), .val (.long lv), .second, .val (.int m_), .val (.int (m_ &&& (3 : Int32))), .val (.double (FP.l2d lv)), .second, .val (.int (0 : Int32))] [(.double (FP.l2d lv))])) (s₁.setTop (entryFrame m #[(.int a), (.long lv), (.int m_)] maxLocals)) := fun t hh => k2 t (by
        refine XS.ifYes X0.here hx rfl (pc0 := 17) (pc' := 32) rfl (hb hby at_17) rfl (own_ifT_lt c17) (by decide) (by decide) ?_
        show Steps p.tables e below (s₁.setTop (mkF m 32 #[.val (.int a), .val (.long lv), .second, .val (.int m_), .val (.int (m_ &&& (3 : Int32))), .val (.double (FP.l2d lv)), .second, .unset] [])) _
        refine XS.iconst X0.here hx rfl (hb hby at_32) ?_
        show Steps p.tables e below (s₁.setTop (mkF m 33 #[.val (.int a), .val (.long lv), .second, .val (.int m_), .val (.int (m_ &&& (3 : Int32))), .val (.double (FP.l2d lv)), .second, .unset] [(.int (0 : Int32))])) _
        refine XS.istore X0.here hx rfl (hb hby at_33) rfl (l' := #[.val (.int a), .val (.long lv), .second, .val (.int m_), .val (.int (m_ &&& (3 : Int32))), .val (.double (FP.l2d lv)), .second, .val (.int (0 : Int32))]) rfl ?_
        show Steps p.tables e below (s₁.setTop (mkF m 35 #[.val (.int a), .val (.long lv), .second, .val (.int m_), .val (.int (m_ &&& (3 : Int32))), .val (.double (FP.l2d lv)), .second, .val (.int (0 : Int32))] [])) _
        refine XS.goto X0.here hx rfl (pc0 := 35) (pc' := 117) rfl (hb hby at_35) (by decide) (by decide) ?_
        show Steps p.tables e below (s₁.setTop (mkF m 117 #[.val (.int a), .val (.long lv), .second, .val (.int m_), .val (.int (m_ &&& (3 : Int32))), .val (.double (FP.l2d lv)), .second, .val (.int (0 : Int32))] [])) _
        refine XS.dload X0.here hx rfl (hb hby at_117) rfl ?_
        show Steps p.tables e below (s₁.setTop (mkF m 119 #[.val (.int a), .val (.long lv), .second, .val (.int m_), .val (.int (m_ &&& (3 : Int32))), .val (.double (FP.l2d lv)), .second, .val (.int (0 : Int32))] [(.double (FP.l2d lv))])) _
        exact hh)
      obtain ⟨_, _, ⟨T1, L2, k_3, n_4⟩, -, X5, ⟨Lc6, hQ7, l_8, y_9, z_10⟩, st11⟩ := Jvm.LawKit.callS X0 hx (y := (⟨"com/example/flueline/flueline/Method19", "isPossibleOxygen", "(D)Z"⟩ : MethodName)) hown (mvT hZ (wT hw 1 rfl)) (mvT hZ (wT hw 2 rfl)) (mvT hZ (wT hw 3 rfl)) (mvT hZ (wT hw 4 rfl)) (by decide) (backOf (W := 0) (rmA l Z a0 hw [] (FP.l2d lv) h0 n0 Z0) hZ (wT hw 4 rfl) (wT hw 3 rfl) (by decide) (by decide)) (g := (mkF m 119 #[.val (.int a), .val (.long lv), .second, .val (.int m_), .val (.int (m_ &&& (3 : Int32))), .val (.double (FP.l2d lv)), .second, .val (.int (0 : Int32))] [(.double (FP.l2d lv))])) rfl (by rw [hml]; rfl) (argsL := [(.double (FP.l2d lv))]) (rest := []) (lenOf own_h14 rfl) rfl (by show 2 * 0 + _ ≤ _; exact Nat.le_of_eq rfl) (hb hby at_119) (fun _ _ => ⟨rfl, e0, (by decide : 0 + 0 ≤ _), (by decide : 0 + 0 ≤ _)⟩)
      dsimp only [Pt.U, Pt.locs, Pt.cells, Pt.slots] at X5 l_8 y_9 z_10 st11 hQ7
      subst l_8 y_9 z_10
      obtain ⟨rfl, N12, e13⟩ := hQ7
      have N14 := Fr.app N0 N12
      have k4 : own_K p e below (T1.setTop (mkF m 122 #[.val (.int a), .val (.long lv), .second, .val (.int m_), .val (.int (m_ &&& (3 : Int32))), .val (.double (FP.l2d lv)), .second, .val (.int (0 : Int32))] [(.int (own_o2 (FP.l2d lv)))])) (s₁.setTop (entryFrame m #[(.int a), (.long lv), (.int m_)] maxLocals)) := fun t hh => k3 t (st11 t hh)
      have k5 : own_K p e below (T1.setTop (mkF m 132 #[.val (.int a), .val (.long lv), .second, .val (.int m_), .val (.int (m_ &&& (3 : Int32))), .val (.double (FP.l2d lv)), .second, .val (.int (0 : Int32))] [(.int (1 : Int32))])) (s₁.setTop (entryFrame m #[(.int a), (.long lv), (.int m_)] maxLocals)) := fun t hh => k4 t (by
        refine XS.iload X5.here hx rfl (hb hby at_122) rfl ?_
        show Steps p.tables e below (T1.setTop (mkF m 124 #[.val (.int a), .val (.long lv), .second, .val (.int m_), .val (.int (m_ &&& (3 : Int32))), .val (.double (FP.l2d lv)), .second, .val (.int (0 : Int32))] [(.int (0 : Int32)), (.int (own_o2 (FP.l2d lv)))])) _
        refine XS.icmpNo X5.here hx rfl (hb hby at_124) rfl (own_icF_ne (own_m0_0' lv (Or.inl c17))) ?_
        show Steps p.tables e below (T1.setTop (mkF m 127 #[.val (.int a), .val (.long lv), .second, .val (.int m_), .val (.int (m_ &&& (3 : Int32))), .val (.double (FP.l2d lv)), .second, .val (.int (0 : Int32))] [])) _
        refine XS.iconst X5.here hx rfl (hb hby at_127) ?_
        show Steps p.tables e below (T1.setTop (mkF m 128 #[.val (.int a), .val (.long lv), .second, .val (.int m_), .val (.int (m_ &&& (3 : Int32))), .val (.double (FP.l2d lv)), .second, .val (.int (0 : Int32))] [(.int (1 : Int32))])) _
        refine XS.goto X5.here hx rfl (pc0 := 128) (pc' := 132) rfl (hb hby at_128) (by decide) (by decide) ?_
        show Steps p.tables e below (T1.setTop (mkF m 132 #[.val (.int a), .val (.long lv), .second, .val (.int m_), .val (.int (m_ &&& (3 : Int32))), .val (.double (FP.l2d lv)), .second, .val (.int (0 : Int32))] [(.int (1 : Int32))])) _
        exact hh)
      obtain ⟨fs, hr, hrun, hended, hW, hsame⟩ := X5.leave (v := some (.int (1 : Int32))) (fun h => by rw [Bd.returns] at h; cases h)
      refine ⟨_, _, k5 _ (retN X5 hx (t := .boolean) Bd.returns (by simp) (hb hby at_132) hr), hrun, hended, _, _, rfl, ?_, ⟨_, rfl⟩, hW, hsame.mono (by decide) (by decide)⟩
      show QL h0 n0 _ T1.heap _
      rw [e13]
      exact ⟨rfl, N14⟩
    ·
      have k6 : own_K p e below (s₁.setTop (mkF m 25 #[.val (.int a), .val (.long lv), .second, .val (.int m_), .val (.int (m_ &&& (3 : Int32))), .val (.double (FP.l2d lv)), .second, .unset] [(.int (lcmpW lv (20 : Int64)))])) (s₁.setTop (entryFrame m #[(.int a), (.long lv), (.int m_)] maxLocals)) := fun t hh => k2 t (by
        refine XS.ifNo X0.here hx rfl (hb hby at_17) rfl (own_ifF_lt c17) ?_
        show Steps p.tables e below (s₁.setTop (mkF m 20 #[.val (.int a), .val (.long lv), .second, .val (.int m_), .val (.int (m_ &&& (3 : Int32))), .val (.double (FP.l2d lv)), .second, .unset] [])) _
        refine XS.lloadN X0.here hx rfl (hb hby at_20) rfl ?_
        show Steps p.tables e below (s₁.setTop (mkF m 21 #[.val (.int a), .val (.long lv), .second, .val (.int m_), .val (.int (m_ &&& (3 : Int32))), .val (.double (FP.l2d lv)), .second, .unset] [(.long lv)])) _
        refine X0.ldc2Long hx hown (mvT hZ (wT hw 7 rfl)) (g := (mkF m 21 #[.val (.int a), .val (.long lv), .second, .val (.int m_), .val (.int (m_ &&& (3 : Int32))), .val (.double (FP.l2d lv)), .second, .unset] [(.long lv)])) rfl (hb hby at_21) _ ?_
        show Steps p.tables e below (s₁.setTop (mkF m 24 #[.val (.int a), .val (.long lv), .second, .val (.int m_), .val (.int (m_ &&& (3 : Int32))), .val (.double (FP.l2d lv)), .second, .unset] [(.long (20 : Int64)), (.long lv)])) _
        refine XS.lcmp X0.here hx rfl (hb hby at_24) rfl ?_
        show Steps p.tables e below (s₁.setTop (mkF m 25 #[.val (.int a), .val (.long lv), .second, .val (.int m_), .val (.int (m_ &&& (3 : Int32))), .val (.double (FP.l2d lv)), .second, .unset] [(.int (lcmpW lv (20 : Int64)))])) _
        exact hh)
      by_cases c25 : 0 < (lcmpW lv (20 : Int64))
      ·
        have k7 : own_K p e below (s₁.setTop (mkF m 119 #[.val (.int a), .val (.long lv), .second, .val (.int m_), .val (.int (m_ &&& (3 : Int32))), .val (.double (FP.l2d lv)), .second, .val (.int (0 : Int32))] [(.double (FP.l2d lv))])) (s₁.setTop (entryFrame m #[(.int a), (.long lv), (.int m_)] maxLocals)) := fun t hh => k6 t (by
          refine XS.ifYes X0.here hx rfl (pc0 := 25) (pc' := 32) rfl (hb hby at_25) rfl (own_ifT_gt c25) (by decide) (by decide) ?_
          show Steps p.tables e below (s₁.setTop (mkF m 32 #[.val (.int a), .val (.long lv), .second, .val (.int m_), .val (.int (m_ &&& (3 : Int32))), .val (.double (FP.l2d lv)), .second, .unset] [])) _
          refine XS.iconst X0.here hx rfl (hb hby at_32) ?_
          show Steps p.tables e below (s₁.setTop (mkF m 33 #[.val (.int a), .val (.long lv), .second, .val (.int m_), .val (.int (m_ &&& (3 : Int32))), .val (.double (FP.l2d lv)), .second, .unset] [(.int (0 : Int32))])) _
          refine XS.istore X0.here hx rfl (hb hby at_33) rfl (l' := #[.val (.int a), .val (.long lv), .second, .val (.int m_), .val (.int (m_ &&& (3 : Int32))), .val (.double (FP.l2d lv)), .second, .val (.int (0 : Int32))]) rfl ?_
          show Steps p.tables e below (s₁.setTop (mkF m 35 #[.val (.int a), .val (.long lv), .second, .val (.int m_), .val (.int (m_ &&& (3 : Int32))), .val (.double (FP.l2d lv)), .second, .val (.int (0 : Int32))] [])) _
          refine XS.goto X0.here hx rfl (pc0 := 35) (pc' := 117) rfl (hb hby at_35) (by decide) (by decide) ?_
          show Steps p.tables e below (s₁.setTop (mkF m 117 #[.val (.int a), .val (.long lv), .second, .val (.int m_), .val (.int (m_ &&& (3 : Int32))), .val (.double (FP.l2d lv)), .second, .val (.int (0 : Int32))] [])) _
          refine XS.dload X0.here hx rfl (hb hby at_117) rfl ?_
          show Steps p.tables e below (s₁.setTop (mkF m 119 #[.val (.int a), .val (.long lv), .second, .val (.int m_), .val (.int (m_ &&& (3 : Int32))), .val (.double (FP.l2d lv)), .second, .val (.int (0 : Int32))] [(.double (FP.l2d lv))])) _
          exact hh)
        obtain ⟨_, _, ⟨T15, L16, k_17, n_18⟩, -, X19, ⟨Lc20, hQ21, l_22, y_23, z_24⟩, st25⟩ := Jvm.LawKit.callS X0 hx (y := (⟨"com/example/flueline/flueline/Method19", "isPossibleOxygen", "(D)Z"⟩ : MethodName)) hown (mvT hZ (wT hw 1 rfl)) (mvT hZ (wT hw 2 rfl)) (mvT hZ (wT hw 3 rfl)) (mvT hZ (wT hw 4 rfl)) (by decide) (backOf (W := 0) (rmA l Z a0 hw [] (FP.l2d lv) h0 n0 Z0) hZ (wT hw 4 rfl) (wT hw 3 rfl) (by decide) (by decide)) (g := (mkF m 119 #[.val (.int a), .val (.long lv), .second, .val (.int m_), .val (.int (m_ &&& (3 : Int32))), .val (.double (FP.l2d lv)), .second, .val (.int (0 : Int32))] [(.double (FP.l2d lv))])) rfl (by rw [hml]; rfl) (argsL := [(.double (FP.l2d lv))]) (rest := []) (lenOf own_h14 rfl) rfl (by show 2 * 0 + _ ≤ _; exact Nat.le_of_eq rfl) (hb hby at_119) (fun _ _ => ⟨rfl, e0, (by decide : 0 + 0 ≤ _), (by decide : 0 + 0 ≤ _)⟩)
        dsimp only [Pt.U, Pt.locs, Pt.cells, Pt.slots] at X19 l_22 y_23 z_24 st25 hQ21
        subst l_22 y_23 z_24
        obtain ⟨rfl, N26, e27⟩ := hQ21
        have N28 := Fr.app N0 N26
        have k8 : own_K p e below (T15.setTop (mkF m 122 #[.val (.int a), .val (.long lv), .second, .val (.int m_), .val (.int (m_ &&& (3 : Int32))), .val (.double (FP.l2d lv)), .second, .val (.int (0 : Int32))] [(.int (own_o2 (FP.l2d lv)))])) (s₁.setTop (entryFrame m #[(.int a), (.long lv), (.int m_)] maxLocals)) := fun t hh => k7 t (st25 t hh)
        have k9 : own_K p e below (T15.setTop (mkF m 132 #[.val (.int a), .val (.long lv), .second, .val (.int m_), .val (.int (m_ &&& (3 : Int32))), .val (.double (FP.l2d lv)), .second, .val (.int (0 : Int32))] [(.int (1 : Int32))])) (s₁.setTop (entryFrame m #[(.int a), (.long lv), (.int m_)] maxLocals)) := fun t hh => k8 t (by
          refine XS.iload X19.here hx rfl (hb hby at_122) rfl ?_
          show Steps p.tables e below (T15.setTop (mkF m 124 #[.val (.int a), .val (.long lv), .second, .val (.int m_), .val (.int (m_ &&& (3 : Int32))), .val (.double (FP.l2d lv)), .second, .val (.int (0 : Int32))] [(.int (0 : Int32)), (.int (own_o2 (FP.l2d lv)))])) _
          refine XS.icmpNo X19.here hx rfl (hb hby at_124) rfl (own_icF_ne (own_m0_0' lv (Or.inr c25))) ?_
          show Steps p.tables e below (T15.setTop (mkF m 127 #[.val (.int a), .val (.long lv), .second, .val (.int m_), .val (.int (m_ &&& (3 : Int32))), .val (.double (FP.l2d lv)), .second, .val (.int (0 : Int32))] [])) _
          refine XS.iconst X19.here hx rfl (hb hby at_127) ?_
          show Steps p.tables e below (T15.setTop (mkF m 128 #[.val (.int a), .val (.long lv), .second, .val (.int m_), .val (.int (m_ &&& (3 : Int32))), .val (.double (FP.l2d lv)), .second, .val (.int (0 : Int32))] [(.int (1 : Int32))])) _
          refine XS.goto X19.here hx rfl (pc0 := 128) (pc' := 132) rfl (hb hby at_128) (by decide) (by decide) ?_
          show Steps p.tables e below (T15.setTop (mkF m 132 #[.val (.int a), .val (.long lv), .second, .val (.int m_), .val (.int (m_ &&& (3 : Int32))), .val (.double (FP.l2d lv)), .second, .val (.int (0 : Int32))] [(.int (1 : Int32))])) _
          exact hh)
        obtain ⟨fs, hr, hrun, hended, hW, hsame⟩ := X19.leave (v := some (.int (1 : Int32))) (fun h => by rw [Bd.returns] at h; cases h)
        refine ⟨_, _, k9 _ (retN X19 hx (t := .boolean) Bd.returns (by simp) (hb hby at_132) hr), hrun, hended, _, _, rfl, ?_, ⟨_, rfl⟩, hW, hsame.mono (by decide) (by decide)⟩
        show QL h0 n0 _ T15.heap _
        rw [e27]
        exact ⟨rfl, N28⟩
      ·
        have k10 : own_K p e below (s₁.setTop (mkF m 119 #[.val (.int a), .val (.long lv), .second, .val (.int m_), .val (.int (m_ &&& (3 : Int32))), .val (.double (FP.l2d lv)), .second, .val (.int (1 : Int32))] [(.double (FP.l2d lv))])) (s₁.setTop (entryFrame m #[(.int a), (.long lv), (.int m_)] maxLocals)) := fun t hh => k6 t (by
          refine XS.ifNo X0.here hx rfl (hb hby at_25) rfl (own_ifF_gt c25) ?_
          show Steps p.tables e below (s₁.setTop (mkF m 28 #[.val (.int a), .val (.long lv), .second, .val (.int m_), .val (.int (m_ &&& (3 : Int32))), .val (.double (FP.l2d lv)), .second, .unset] [])) _
          refine XS.iconst X0.here hx rfl (hb hby at_28) ?_
          show Steps p.tables e below (s₁.setTop (mkF m 29 #[.val (.int a), .val (.long lv), .second, .val (.int m_), .val (.int (m_ &&& (3 : Int32))), .val (.double (FP.l2d lv)), .second, .unset] [(.int (1 : Int32))])) _
          refine XS.goto X0.here hx rfl (pc0 := 29) (pc' := 33) rfl (hb hby at_29) (by decide) (by decide) ?_
          show Steps p.tables e below (s₁.setTop (mkF m 33 #[.val (.int a), .val (.long lv), .second, .val (.int m_), .val (.int (m_ &&& (3 : Int32))), .val (.double (FP.l2d lv)), .second, .unset] [(.int (1 : Int32))])) _
          refine XS.istore X0.here hx rfl (hb hby at_33) rfl (l' := #[.val (.int a), .val (.long lv), .second, .val (.int m_), .val (.int (m_ &&& (3 : Int32))), .val (.double (FP.l2d lv)), .second, .val (.int (1 : Int32))]) rfl ?_
          show Steps p.tables e below (s₁.setTop (mkF m 35 #[.val (.int a), .val (.long lv), .second, .val (.int m_), .val (.int (m_ &&& (3 : Int32))), .val (.double (FP.l2d lv)), .second, .val (.int (1 : Int32))] [])) _
          refine XS.goto X0.here hx rfl (pc0 := 35) (pc' := 117) rfl (hb hby at_35) (by decide) (by decide) ?_
          show Steps p.tables e below (s₁.setTop (mkF m 117 #[.val (.int a), .val (.long lv), .second, .val (.int m_), .val (.int (m_ &&& (3 : Int32))), .val (.double (FP.l2d lv)), .second, .val (.int (1 : Int32))] [])) _
          refine XS.dload X0.here hx rfl (hb hby at_117) rfl ?_
          show Steps p.tables e below (s₁.setTop (mkF m 119 #[.val (.int a), .val (.long lv), .second, .val (.int m_), .val (.int (m_ &&& (3 : Int32))), .val (.double (FP.l2d lv)), .second, .val (.int (1 : Int32))] [(.double (FP.l2d lv))])) _
          exact hh)
        obtain ⟨_, _, ⟨T29, L30, k_31, n_32⟩, -, X33, ⟨Lc34, hQ35, l_36, y_37, z_38⟩, st39⟩ := Jvm.LawKit.callS X0 hx (y := (⟨"com/example/flueline/flueline/Method19", "isPossibleOxygen", "(D)Z"⟩ : MethodName)) hown (mvT hZ (wT hw 1 rfl)) (mvT hZ (wT hw 2 rfl)) (mvT hZ (wT hw 3 rfl)) (mvT hZ (wT hw 4 rfl)) (by decide) (backOf (W := 0) (rmA l Z a0 hw [] (FP.l2d lv) h0 n0 Z0) hZ (wT hw 4 rfl) (wT hw 3 rfl) (by decide) (by decide)) (g := (mkF m 119 #[.val (.int a), .val (.long lv), .second, .val (.int m_), .val (.int (m_ &&& (3 : Int32))), .val (.double (FP.l2d lv)), .second, .val (.int (1 : Int32))] [(.double (FP.l2d lv))])) rfl (by rw [hml]; rfl) (argsL := [(.double (FP.l2d lv))]) (rest := []) (lenOf own_h14 rfl) rfl (by show 2 * 0 + _ ≤ _; exact Nat.le_of_eq rfl) (hb hby at_119) (fun _ _ => ⟨rfl, e0, (by decide : 0 + 0 ≤ _), (by decide : 0 + 0 ≤ _)⟩)
        dsimp only [Pt.U, Pt.locs, Pt.cells, Pt.slots] at X33 l_36 y_37 z_38 st39 hQ35
        subst l_36 y_37 z_38
        obtain ⟨rfl, N40, e41⟩ := hQ35
        have N42 := Fr.app N0 N40
        have k11 : own_K p e below (T29.setTop (mkF m 122 #[.val (.int a), .val (.long lv), .second, .val (.int m_), .val (.int (m_ &&& (3 : Int32))), .val (.double (FP.l2d lv)), .second, .val (.int (1 : Int32))] [(.int (own_o2 (FP.l2d lv)))])) (s₁.setTop (entryFrame m #[(.int a), (.long lv), (.int m_)] maxLocals)) := fun t hh => k10 t (st39 t hh)
        have k12 : own_K p e below (T29.setTop (mkF m 132 #[.val (.int a), .val (.long lv), .second, .val (.int m_), .val (.int (m_ &&& (3 : Int32))), .val (.double (FP.l2d lv)), .second, .val (.int (1 : Int32))] [(.int (1 : Int32))])) (s₁.setTop (entryFrame m #[(.int a), (.long lv), (.int m_)] maxLocals)) := fun t hh => k11 t (by
          refine XS.iload X33.here hx rfl (hb hby at_122) rfl ?_
          show Steps p.tables e below (T29.setTop (mkF m 124 #[.val (.int a), .val (.long lv), .second, .val (.int m_), .val (.int (m_ &&& (3 : Int32))), .val (.double (FP.l2d lv)), .second, .val (.int (1 : Int32))] [(.int (1 : Int32)), (.int (own_o2 (FP.l2d lv)))])) _
          refine XS.icmpNo X33.here hx rfl (hb hby at_124) rfl (own_icF_ne (own_m0_1' lv c17 c25)) ?_
          show Steps p.tables e below (T29.setTop (mkF m 127 #[.val (.int a), .val (.long lv), .second, .val (.int m_), .val (.int (m_ &&& (3 : Int32))), .val (.double (FP.l2d lv)), .second, .val (.int (1 : Int32))] [])) _
          refine XS.iconst X33.here hx rfl (hb hby at_127) ?_
          show Steps p.tables e below (T29.setTop (mkF m 128 #[.val (.int a), .val (.long lv), .second, .val (.int m_), .val (.int (m_ &&& (3 : Int32))), .val (.double (FP.l2d lv)), .second, .val (.int (1 : Int32))] [(.int (1 : Int32))])) _
          refine XS.goto X33.here hx rfl (pc0 := 128) (pc' := 132) rfl (hb hby at_128) (by decide) (by decide) ?_
          show Steps p.tables e below (T29.setTop (mkF m 132 #[.val (.int a), .val (.long lv), .second, .val (.int m_), .val (.int (m_ &&& (3 : Int32))), .val (.double (FP.l2d lv)), .second, .val (.int (1 : Int32))] [(.int (1 : Int32))])) _
          exact hh)
        obtain ⟨fs, hr, hrun, hended, hW, hsame⟩ := X33.leave (v := some (.int (1 : Int32))) (fun h => by rw [Bd.returns] at h; cases h)
        refine ⟨_, _, k12 _ (retN X33 hx (t := .boolean) Bd.returns (by simp) (hb hby at_132) hr), hrun, hended, _, _, rfl, ?_, ⟨_, rfl⟩, hW, hsame.mono (by decide) (by decide)⟩
        show QL h0 n0 _ T29.heap _
        rw [e41]
        exact ⟨rfl, N42⟩
  ·
    have k13 : own_K p e below (s₁.setTop (mkF m 41 #[.val (.int a), .val (.long lv), .second, .val (.int m_), .val (.int (m_ &&& (3 : Int32))), .unset, .unset, .unset] [(.int (1 : Int32)), (.int (m_ &&& (3 : Int32)))])) (s₁.setTop (entryFrame m #[(.int a), (.long lv), (.int m_)] maxLocals)) := fun t hh => k1 t (by
      refine XS.ifYes X0.here hx rfl (pc0 := 7) (pc' := 38) rfl (hb hby at_7) rfl (own_ifT_ne c7) (by decide) (by decide) ?_
      show Steps p.tables e below (s₁.setTop (mkF m 38 #[.val (.int a), .val (.long lv), .second, .val (.int m_), .val (.int (m_ &&& (3 : Int32))), .unset, .unset, .unset] [])) _
      refine XS.iload X0.here hx rfl (hb hby at_38) rfl ?_
      show Steps p.tables e below (s₁.setTop (mkF m 40 #[.val (.int a), .val (.long lv), .second, .val (.int m_), .val (.int (m_ &&& (3 : Int32))), .unset, .unset, .unset] [(.int (m_ &&& (3 : Int32)))])) _
      refine XS.iconst X0.here hx rfl (hb hby at_40) ?_
      show Steps p.tables e below (s₁.setTop (mkF m 41 #[.val (.int a), .val (.long lv), .second, .val (.int m_), .val (.int (m_ &&& (3 : Int32))), .unset, .unset, .unset] [(.int (1 : Int32)), (.int (m_ &&& (3 : Int32)))])) _
      exact hh)
    by_cases c41 : (m_ &&& (3 : Int32)) = (1 : Int32)
    ·
      have k14 : own_K p e below (s₁.setTop (mkF m 53 #[.val (.int a), .val (.long lv), .second, .val (.int m_), .val (.int (m_ &&& (3 : Int32))), .val (.double (FP.ddiv (FP.i2d a) (4621819117588971520 : UInt64))), .second, .unset] [(.int a)])) (s₁.setTop (entryFrame m #[(.int a), (.long lv), (.int m_)] maxLocals)) := fun t hh => k13 t (by
        refine XS.icmpNo X0.here hx rfl (hb hby at_41) rfl (own_icF_ne c41) ?_
        show Steps p.tables e below (s₁.setTop (mkF m 44 #[.val (.int a), .val (.long lv), .second, .val (.int m_), .val (.int (m_ &&& (3 : Int32))), .unset, .unset, .unset] [])) _
        refine XS.iloadN X0.here hx rfl (hb hby at_44) rfl ?_
        show Steps p.tables e below (s₁.setTop (mkF m 45 #[.val (.int a), .val (.long lv), .second, .val (.int m_), .val (.int (m_ &&& (3 : Int32))), .unset, .unset, .unset] [(.int a)])) _
        refine XS.i2dS X0.here hx rfl (hb hby at_45) rfl rfl ?_
        show Steps p.tables e below (s₁.setTop (mkF m 46 #[.val (.int a), .val (.long lv), .second, .val (.int m_), .val (.int (m_ &&& (3 : Int32))), .unset, .unset, .unset] [(.double (FP.i2d a))])) _
        refine X0.ldc2DoubleC hx hown (mvT hZ (wT hw 0 rfl)) (g := (mkF m 46 #[.val (.int a), .val (.long lv), .second, .val (.int m_), .val (.int (m_ &&& (3 : Int32))), .unset, .unset, .unset] [(.double (FP.i2d a))])) rfl (hb hby at_46) _ ?_
        show Steps p.tables e below (s₁.setTop (mkF m 49 #[.val (.int a), .val (.long lv), .second, .val (.int m_), .val (.int (m_ &&& (3 : Int32))), .unset, .unset, .unset] [(.double (4621819117588971520 : UInt64)), (.double (FP.i2d a))])) _
        refine XS.ddivS X0.here hx rfl (hb hby at_49) rfl (own_q_no a 10 (by decide) (by decide) own_ten) rfl ?_
        show Steps p.tables e below (s₁.setTop (mkF m 50 #[.val (.int a), .val (.long lv), .second, .val (.int m_), .val (.int (m_ &&& (3 : Int32))), .unset, .unset, .unset] [(.double (FP.ddiv (FP.i2d a) (4621819117588971520 : UInt64)))])) _
        refine XS.dstore X0.here hx rfl (hb hby at_50) rfl (l' := #[.val (.int a), .val (.long lv), .second, .val (.int m_), .val (.int (m_ &&& (3 : Int32))), .val (.double (FP.ddiv (FP.i2d a) (4621819117588971520 : UInt64))), .second, .unset]) rfl ?_
        show Steps p.tables e below (s₁.setTop (mkF m 52 #[.val (.int a), .val (.long lv), .second, .val (.int m_), .val (.int (m_ &&& (3 : Int32))), .val (.double (FP.ddiv (FP.i2d a) (4621819117588971520 : UInt64))), .second, .unset] [])) _
        refine XS.iloadN X0.here hx rfl (hb hby at_52) rfl ?_
        show Steps p.tables e below (s₁.setTop (mkF m 53 #[.val (.int a), .val (.long lv), .second, .val (.int m_), .val (.int (m_ &&& (3 : Int32))), .val (.double (FP.ddiv (FP.i2d a) (4621819117588971520 : UInt64))), .second, .unset] [(.int a)])) _
        exact hh)
      by_cases c53 : a < 0
      ·
        have k15 : own_K p e below (s₁.setTop (mkF m 119 #[.val (.int a), .val (.long lv), .second, .val (.int m_), .val (.int (m_ &&& (3 : Int32))), .val (.double (FP.ddiv (FP.i2d a) (4621819117588971520 : UInt64))), .second, .val (.int (0 : Int32))] [(.double (FP.ddiv (FP.i2d a) (4621819117588971520 : UInt64)))])) (s₁.setTop (entryFrame m #[(.int a), (.long lv), (.int m_)] maxLocals)) := fun t hh => k14 t (by
          refine XS.ifYes X0.here hx rfl (pc0 := 53) (pc' := 67) rfl (hb hby at_53) rfl (own_ifT_lt c53) (by decide) (by decide) ?_
          show Steps p.tables e below (s₁.setTop (mkF m 67 #[.val (.int a), .val (.long lv), .second, .val (.int m_), .val (.int (m_ &&& (3 : Int32))), .val (.double (FP.ddiv (FP.i2d a) (4621819117588971520 : UInt64))), .second, .unset] [])) _
          refine XS.iconst X0.here hx rfl (hb hby at_67) ?_
          show Steps p.tables e below (s₁.setTop (mkF m 68 #[.val (.int a), .val (.long lv), .second, .val (.int m_), .val (.int (m_ &&& (3 : Int32))), .val (.double (FP.ddiv (FP.i2d a) (4621819117588971520 : UInt64))), .second, .unset] [(.int (0 : Int32))])) _
          refine XS.istore X0.here hx rfl (hb hby at_68) rfl (l' := #[.val (.int a), .val (.long lv), .second, .val (.int m_), .val (.int (m_ &&& (3 : Int32))), .val (.double (FP.ddiv (FP.i2d a) (4621819117588971520 : UInt64))), .second, .val (.int (0 : Int32))]) rfl ?_
          show Steps p.tables e below (s₁.setTop (mkF m 70 #[.val (.int a), .val (.long lv), .second, .val (.int m_), .val (.int (m_ &&& (3 : Int32))), .val (.double (FP.ddiv (FP.i2d a) (4621819117588971520 : UInt64))), .second, .val (.int (0 : Int32))] [])) _
          refine XS.goto X0.here hx rfl (pc0 := 70) (pc' := 117) rfl (hb hby at_70) (by decide) (by decide) ?_
          show Steps p.tables e below (s₁.setTop (mkF m 117 #[.val (.int a), .val (.long lv), .second, .val (.int m_), .val (.int (m_ &&& (3 : Int32))), .val (.double (FP.ddiv (FP.i2d a) (4621819117588971520 : UInt64))), .second, .val (.int (0 : Int32))] [])) _
          refine XS.dload X0.here hx rfl (hb hby at_117) rfl ?_
          show Steps p.tables e below (s₁.setTop (mkF m 119 #[.val (.int a), .val (.long lv), .second, .val (.int m_), .val (.int (m_ &&& (3 : Int32))), .val (.double (FP.ddiv (FP.i2d a) (4621819117588971520 : UInt64))), .second, .val (.int (0 : Int32))] [(.double (FP.ddiv (FP.i2d a) (4621819117588971520 : UInt64)))])) _
          exact hh)
        obtain ⟨_, _, ⟨T43, L44, k_45, n_46⟩, -, X47, ⟨Lc48, hQ49, l_50, y_51, z_52⟩, st53⟩ := Jvm.LawKit.callS X0 hx (y := (⟨"com/example/flueline/flueline/Method19", "isPossibleOxygen", "(D)Z"⟩ : MethodName)) hown (mvT hZ (wT hw 1 rfl)) (mvT hZ (wT hw 2 rfl)) (mvT hZ (wT hw 3 rfl)) (mvT hZ (wT hw 4 rfl)) (by decide) (backOf (W := 0) (rmA l Z a0 hw [] (FP.ddiv (FP.i2d a) (4621819117588971520 : UInt64)) h0 n0 Z0) hZ (wT hw 4 rfl) (wT hw 3 rfl) (by decide) (by decide)) (g := (mkF m 119 #[.val (.int a), .val (.long lv), .second, .val (.int m_), .val (.int (m_ &&& (3 : Int32))), .val (.double (FP.ddiv (FP.i2d a) (4621819117588971520 : UInt64))), .second, .val (.int (0 : Int32))] [(.double (FP.ddiv (FP.i2d a) (4621819117588971520 : UInt64)))])) rfl (by rw [hml]; rfl) (argsL := [(.double (FP.ddiv (FP.i2d a) (4621819117588971520 : UInt64)))]) (rest := []) (lenOf own_h14 rfl) rfl (by show 2 * 0 + _ ≤ _; exact Nat.le_of_eq rfl) (hb hby at_119) (fun _ _ => ⟨rfl, e0, (by decide : 0 + 0 ≤ _), (by decide : 0 + 0 ≤ _)⟩)
        dsimp only [Pt.U, Pt.locs, Pt.cells, Pt.slots] at X47 l_50 y_51 z_52 st53 hQ49
        subst l_50 y_51 z_52
        obtain ⟨rfl, N54, e55⟩ := hQ49
        have N56 := Fr.app N0 N54
        have k16 : own_K p e below (T43.setTop (mkF m 122 #[.val (.int a), .val (.long lv), .second, .val (.int m_), .val (.int (m_ &&& (3 : Int32))), .val (.double (FP.ddiv (FP.i2d a) (4621819117588971520 : UInt64))), .second, .val (.int (0 : Int32))] [(.int (own_o2 (FP.ddiv (FP.i2d a) (4621819117588971520 : UInt64))))])) (s₁.setTop (entryFrame m #[(.int a), (.long lv), (.int m_)] maxLocals)) := fun t hh => k15 t (st53 t hh)
        have k17 : own_K p e below (T43.setTop (mkF m 132 #[.val (.int a), .val (.long lv), .second, .val (.int m_), .val (.int (m_ &&& (3 : Int32))), .val (.double (FP.ddiv (FP.i2d a) (4621819117588971520 : UInt64))), .second, .val (.int (0 : Int32))] [(.int (1 : Int32))])) (s₁.setTop (entryFrame m #[(.int a), (.long lv), (.int m_)] maxLocals)) := fun t hh => k16 t (by
          refine XS.iload X47.here hx rfl (hb hby at_122) rfl ?_
          show Steps p.tables e below (T43.setTop (mkF m 124 #[.val (.int a), .val (.long lv), .second, .val (.int m_), .val (.int (m_ &&& (3 : Int32))), .val (.double (FP.ddiv (FP.i2d a) (4621819117588971520 : UInt64))), .second, .val (.int (0 : Int32))] [(.int (0 : Int32)), (.int (own_o2 (FP.ddiv (FP.i2d a) (4621819117588971520 : UInt64))))])) _
          refine XS.icmpNo X47.here hx rfl (hb hby at_124) rfl (own_icF_ne (own_m1_0 a (Or.inl c53))) ?_
          show Steps p.tables e below (T43.setTop (mkF m 127 #[.val (.int a), .val (.long lv), .second, .val (.int m_), .val (.int (m_ &&& (3 : Int32))), .val (.double (FP.ddiv (FP.i2d a) (4621819117588971520 : UInt64))), .second, .val (.int (0 : Int32))] [])) _
          refine XS.iconst X47.here hx rfl (hb hby at_127) ?_
          show Steps p.tables e below (T43.setTop (mkF m 128 #[.val (.int a), .val (.long lv), .second, .val (.int m_), .val (.int (m_ &&& (3 : Int32))), .val (.double (FP.ddiv (FP.i2d a) (4621819117588971520 : UInt64))), .second, .val (.int (0 : Int32))] [(.int (1 : Int32))])) _
          refine XS.goto X47.here hx rfl (pc0 := 128) (pc' := 132) rfl (hb hby at_128) (by decide) (by decide) ?_
          show Steps p.tables e below (T43.setTop (mkF m 132 #[.val (.int a), .val (.long lv), .second, .val (.int m_), .val (.int (m_ &&& (3 : Int32))), .val (.double (FP.ddiv (FP.i2d a) (4621819117588971520 : UInt64))), .second, .val (.int (0 : Int32))] [(.int (1 : Int32))])) _
          exact hh)
        obtain ⟨fs, hr, hrun, hended, hW, hsame⟩ := X47.leave (v := some (.int (1 : Int32))) (fun h => by rw [Bd.returns] at h; cases h)
        refine ⟨_, _, k17 _ (retN X47 hx (t := .boolean) Bd.returns (by simp) (hb hby at_132) hr), hrun, hended, _, _, rfl, ?_, ⟨_, rfl⟩, hW, hsame.mono (by decide) (by decide)⟩
        show QL h0 n0 _ T43.heap _
        rw [e55]
        exact ⟨rfl, N56⟩
      ·
        have k18 : own_K p e below (s₁.setTop (mkF m 60 #[.val (.int a), .val (.long lv), .second, .val (.int m_), .val (.int (m_ &&& (3 : Int32))), .val (.double (FP.ddiv (FP.i2d a) (4621819117588971520 : UInt64))), .second, .unset] [(.int (208 : Int32)), (.int a)])) (s₁.setTop (entryFrame m #[(.int a), (.long lv), (.int m_)] maxLocals)) := fun t hh => k14 t (by
          refine XS.ifNo X0.here hx rfl (hb hby at_53) rfl (own_ifF_lt c53) ?_
          show Steps p.tables e below (s₁.setTop (mkF m 56 #[.val (.int a), .val (.long lv), .second, .val (.int m_), .val (.int (m_ &&& (3 : Int32))), .val (.double (FP.ddiv (FP.i2d a) (4621819117588971520 : UInt64))), .second, .unset] [])) _
          refine XS.iloadN X0.here hx rfl (hb hby at_56) rfl ?_
          show Steps p.tables e below (s₁.setTop (mkF m 57 #[.val (.int a), .val (.long lv), .second, .val (.int m_), .val (.int (m_ &&& (3 : Int32))), .val (.double (FP.ddiv (FP.i2d a) (4621819117588971520 : UInt64))), .second, .unset] [(.int a)])) _
          refine XS.sipush X0.here hx rfl (hb hby at_57) ?_
          show Steps p.tables e below (s₁.setTop (mkF m 60 #[.val (.int a), .val (.long lv), .second, .val (.int m_), .val (.int (m_ &&& (3 : Int32))), .val (.double (FP.ddiv (FP.i2d a) (4621819117588971520 : UInt64))), .second, .unset] [(.int (208 : Int32)), (.int a)])) _
          exact hh)
        by_cases c60 : (208 : Int32) < a
        ·
          have k19 : own_K p e below (s₁.setTop (mkF m 119 #[.val (.int a), .val (.long lv), .second, .val (.int m_), .val (.int (m_ &&& (3 : Int32))), .val (.double (FP.ddiv (FP.i2d a) (4621819117588971520 : UInt64))), .second, .val (.int (0 : Int32))] [(.double (FP.ddiv (FP.i2d a) (4621819117588971520 : UInt64)))])) (s₁.setTop (entryFrame m #[(.int a), (.long lv), (.int m_)] maxLocals)) := fun t hh => k18 t (by
            refine XS.icmpYes X0.here hx rfl (pc0 := 60) (pc' := 67) rfl (hb hby at_60) rfl (own_icT_gt c60) (by decide) (by decide) ?_
            show Steps p.tables e below (s₁.setTop (mkF m 67 #[.val (.int a), .val (.long lv), .second, .val (.int m_), .val (.int (m_ &&& (3 : Int32))), .val (.double (FP.ddiv (FP.i2d a) (4621819117588971520 : UInt64))), .second, .unset] [])) _
            refine XS.iconst X0.here hx rfl (hb hby at_67) ?_
            show Steps p.tables e below (s₁.setTop (mkF m 68 #[.val (.int a), .val (.long lv), .second, .val (.int m_), .val (.int (m_ &&& (3 : Int32))), .val (.double (FP.ddiv (FP.i2d a) (4621819117588971520 : UInt64))), .second, .unset] [(.int (0 : Int32))])) _
            refine XS.istore X0.here hx rfl (hb hby at_68) rfl (l' := #[.val (.int a), .val (.long lv), .second, .val (.int m_), .val (.int (m_ &&& (3 : Int32))), .val (.double (FP.ddiv (FP.i2d a) (4621819117588971520 : UInt64))), .second, .val (.int (0 : Int32))]) rfl ?_
            show Steps p.tables e below (s₁.setTop (mkF m 70 #[.val (.int a), .val (.long lv), .second, .val (.int m_), .val (.int (m_ &&& (3 : Int32))), .val (.double (FP.ddiv (FP.i2d a) (4621819117588971520 : UInt64))), .second, .val (.int (0 : Int32))] [])) _
            refine XS.goto X0.here hx rfl (pc0 := 70) (pc' := 117) rfl (hb hby at_70) (by decide) (by decide) ?_
            show Steps p.tables e below (s₁.setTop (mkF m 117 #[.val (.int a), .val (.long lv), .second, .val (.int m_), .val (.int (m_ &&& (3 : Int32))), .val (.double (FP.ddiv (FP.i2d a) (4621819117588971520 : UInt64))), .second, .val (.int (0 : Int32))] [])) _
            refine XS.dload X0.here hx rfl (hb hby at_117) rfl ?_
            show Steps p.tables e below (s₁.setTop (mkF m 119 #[.val (.int a), .val (.long lv), .second, .val (.int m_), .val (.int (m_ &&& (3 : Int32))), .val (.double (FP.ddiv (FP.i2d a) (4621819117588971520 : UInt64))), .second, .val (.int (0 : Int32))] [(.double (FP.ddiv (FP.i2d a) (4621819117588971520 : UInt64)))])) _
            exact hh)
          obtain ⟨_, _, ⟨T57, L58, k_59, n_60⟩, -, X61, ⟨Lc62, hQ63, l_64, y_65, z_66⟩, st67⟩ := Jvm.LawKit.callS X0 hx (y := (⟨"com/example/flueline/flueline/Method19", "isPossibleOxygen", "(D)Z"⟩ : MethodName)) hown (mvT hZ (wT hw 1 rfl)) (mvT hZ (wT hw 2 rfl)) (mvT hZ (wT hw 3 rfl)) (mvT hZ (wT hw 4 rfl)) (by decide) (backOf (W := 0) (rmA l Z a0 hw [] (FP.ddiv (FP.i2d a) (4621819117588971520 : UInt64)) h0 n0 Z0) hZ (wT hw 4 rfl) (wT hw 3 rfl) (by decide) (by decide)) (g := (mkF m 119 #[.val (.int a), .val (.long lv), .second, .val (.int m_), .val (.int (m_ &&& (3 : Int32))), .val (.double (FP.ddiv (FP.i2d a) (4621819117588971520 : UInt64))), .second, .val (.int (0 : Int32))] [(.double (FP.ddiv (FP.i2d a) (4621819117588971520 : UInt64)))])) rfl (by rw [hml]; rfl) (argsL := [(.double (FP.ddiv (FP.i2d a) (4621819117588971520 : UInt64)))]) (rest := []) (lenOf own_h14 rfl) rfl (by show 2 * 0 + _ ≤ _; exact Nat.le_of_eq rfl) (hb hby at_119) (fun _ _ => ⟨rfl, e0, (by decide : 0 + 0 ≤ _), (by decide : 0 + 0 ≤ _)⟩)
          dsimp only [Pt.U, Pt.locs, Pt.cells, Pt.slots] at X61 l_64 y_65 z_66 st67 hQ63
          subst l_64 y_65 z_66
          obtain ⟨rfl, N68, e69⟩ := hQ63
          have N70 := Fr.app N0 N68
          have k20 : own_K p e below (T57.setTop (mkF m 122 #[.val (.int a), .val (.long lv), .second, .val (.int m_), .val (.int (m_ &&& (3 : Int32))), .val (.double (FP.ddiv (FP.i2d a) (4621819117588971520 : UInt64))), .second, .val (.int (0 : Int32))] [(.int (own_o2 (FP.ddiv (FP.i2d a) (4621819117588971520 : UInt64))))])) (s₁.setTop (entryFrame m #[(.int a), (.long lv), (.int m_)] maxLocals)) := fun t hh => k19 t (st67 t hh)
          have k21 : own_K p e below (T57.setTop (mkF m 132 #[.val (.int a), .val (.long lv), .second, .val (.int m_), .val (.int (m_ &&& (3 : Int32))), .val (.double (FP.ddiv (FP.i2d a) (4621819117588971520 : UInt64))), .second, .val (.int (0 : Int32))] [(.int (1 : Int32))])) (s₁.setTop (entryFrame m #[(.int a), (.long lv), (.int m_)] maxLocals)) := fun t hh => k20 t (by
            refine XS.iload X61.here hx rfl (hb hby at_122) rfl ?_
            show Steps p.tables e below (T57.setTop (mkF m 124 #[.val (.int a), .val (.long lv), .second, .val (.int m_), .val (.int (m_ &&& (3 : Int32))), .val (.double (FP.ddiv (FP.i2d a) (4621819117588971520 : UInt64))), .second, .val (.int (0 : Int32))] [(.int (0 : Int32)), (.int (own_o2 (FP.ddiv (FP.i2d a) (4621819117588971520 : UInt64))))])) _
            refine XS.icmpNo X61.here hx rfl (hb hby at_124) rfl (own_icF_ne (own_m1_0 a (Or.inr c60))) ?_
            show Steps p.tables e below (T57.setTop (mkF m 127 #[.val (.int a), .val (.long lv), .second, .val (.int m_), .val (.int (m_ &&& (3 : Int32))), .val (.double (FP.ddiv (FP.i2d a) (4621819117588971520 : UInt64))), .second, .val (.int (0 : Int32))] [])) _
            refine XS.iconst X61.here hx rfl (hb hby at_127) ?_
            show Steps p.tables e below (T57.setTop (mkF m 128 #[.val (.int a), .val (.long lv), .second, .val (.int m_), .val (.int (m_ &&& (3 : Int32))), .val (.double (FP.ddiv (FP.i2d a) (4621819117588971520 : UInt64))), .second, .val (.int (0 : Int32))] [(.int (1 : Int32))])) _
            refine XS.goto X61.here hx rfl (pc0 := 128) (pc' := 132) rfl (hb hby at_128) (by decide) (by decide) ?_
            show Steps p.tables e below (T57.setTop (mkF m 132 #[.val (.int a), .val (.long lv), .second, .val (.int m_), .val (.int (m_ &&& (3 : Int32))), .val (.double (FP.ddiv (FP.i2d a) (4621819117588971520 : UInt64))), .second, .val (.int (0 : Int32))] [(.int (1 : Int32))])) _
            exact hh)
          obtain ⟨fs, hr, hrun, hended, hW, hsame⟩ := X61.leave (v := some (.int (1 : Int32))) (fun h => by rw [Bd.returns] at h; cases h)
          refine ⟨_, _, k21 _ (retN X61 hx (t := .boolean) Bd.returns (by simp) (hb hby at_132) hr), hrun, hended, _, _, rfl, ?_, ⟨_, rfl⟩, hW, hsame.mono (by decide) (by decide)⟩
          show QL h0 n0 _ T57.heap _
          rw [e69]
          exact ⟨rfl, N70⟩
        ·
          have k22 : own_K p e below (s₁.setTop (mkF m 119 #[.val (.int a), .val (.long lv), .second, .val (.int m_), .val (.int (m_ &&& (3 : Int32))), .val (.double (FP.ddiv (FP.i2d a) (4621819117588971520 : UInt64))), .second, .val (.int (1 : Int32))] [(.double (FP.ddiv (FP.i2d a) (4621819117588971520 : UInt64)))])) (s₁.setTop (entryFrame m #[(.int a), (.long lv), (.int m_)] maxLocals)) := fun t hh => k18 t (by
            refine XS.icmpNo X0.here hx rfl (hb hby at_60) rfl (own_icF_gt c60) ?_
            show Steps p.tables e below (s₁.setTop (mkF m 63 #[.val (.int a), .val (.long lv), .second, .val (.int m_), .val (.int (m_ &&& (3 : Int32))), .val (.double (FP.ddiv (FP.i2d a) (4621819117588971520 : UInt64))), .second, .unset] [])) _
            refine XS.iconst X0.here hx rfl (hb hby at_63) ?_
            show Steps p.tables e below (s₁.setTop (mkF m 64 #[.val (.int a), .val (.long lv), .second, .val (.int m_), .val (.int (m_ &&& (3 : Int32))), .val (.double (FP.ddiv (FP.i2d a) (4621819117588971520 : UInt64))), .second, .unset] [(.int (1 : Int32))])) _
            refine XS.goto X0.here hx rfl (pc0 := 64) (pc' := 68) rfl (hb hby at_64) (by decide) (by decide) ?_
            show Steps p.tables e below (s₁.setTop (mkF m 68 #[.val (.int a), .val (.long lv), .second, .val (.int m_), .val (.int (m_ &&& (3 : Int32))), .val (.double (FP.ddiv (FP.i2d a) (4621819117588971520 : UInt64))), .second, .unset] [(.int (1 : Int32))])) _
            refine XS.istore X0.here hx rfl (hb hby at_68) rfl (l' := #[.val (.int a), .val (.long lv), .second, .val (.int m_), .val (.int (m_ &&& (3 : Int32))), .val (.double (FP.ddiv (FP.i2d a) (4621819117588971520 : UInt64))), .second, .val (.int (1 : Int32))]) rfl ?_
            show Steps p.tables e below (s₁.setTop (mkF m 70 #[.val (.int a), .val (.long lv), .second, .val (.int m_), .val (.int (m_ &&& (3 : Int32))), .val (.double (FP.ddiv (FP.i2d a) (4621819117588971520 : UInt64))), .second, .val (.int (1 : Int32))] [])) _
            refine XS.goto X0.here hx rfl (pc0 := 70) (pc' := 117) rfl (hb hby at_70) (by decide) (by decide) ?_
            show Steps p.tables e below (s₁.setTop (mkF m 117 #[.val (.int a), .val (.long lv), .second, .val (.int m_), .val (.int (m_ &&& (3 : Int32))), .val (.double (FP.ddiv (FP.i2d a) (4621819117588971520 : UInt64))), .second, .val (.int (1 : Int32))] [])) _
            refine XS.dload X0.here hx rfl (hb hby at_117) rfl ?_
            show Steps p.tables e below (s₁.setTop (mkF m 119 #[.val (.int a), .val (.long lv), .second, .val (.int m_), .val (.int (m_ &&& (3 : Int32))), .val (.double (FP.ddiv (FP.i2d a) (4621819117588971520 : UInt64))), .second, .val (.int (1 : Int32))] [(.double (FP.ddiv (FP.i2d a) (4621819117588971520 : UInt64)))])) _
            exact hh)
          obtain ⟨_, _, ⟨T71, L72, k_73, n_74⟩, -, X75, ⟨Lc76, hQ77, l_78, y_79, z_80⟩, st81⟩ := Jvm.LawKit.callS X0 hx (y := (⟨"com/example/flueline/flueline/Method19", "isPossibleOxygen", "(D)Z"⟩ : MethodName)) hown (mvT hZ (wT hw 1 rfl)) (mvT hZ (wT hw 2 rfl)) (mvT hZ (wT hw 3 rfl)) (mvT hZ (wT hw 4 rfl)) (by decide) (backOf (W := 0) (rmA l Z a0 hw [] (FP.ddiv (FP.i2d a) (4621819117588971520 : UInt64)) h0 n0 Z0) hZ (wT hw 4 rfl) (wT hw 3 rfl) (by decide) (by decide)) (g := (mkF m 119 #[.val (.int a), .val (.long lv), .second, .val (.int m_), .val (.int (m_ &&& (3 : Int32))), .val (.double (FP.ddiv (FP.i2d a) (4621819117588971520 : UInt64))), .second, .val (.int (1 : Int32))] [(.double (FP.ddiv (FP.i2d a) (4621819117588971520 : UInt64)))])) rfl (by rw [hml]; rfl) (argsL := [(.double (FP.ddiv (FP.i2d a) (4621819117588971520 : UInt64)))]) (rest := []) (lenOf own_h14 rfl) rfl (by show 2 * 0 + _ ≤ _; exact Nat.le_of_eq rfl) (hb hby at_119) (fun _ _ => ⟨rfl, e0, (by decide : 0 + 0 ≤ _), (by decide : 0 + 0 ≤ _)⟩)
          dsimp only [Pt.U, Pt.locs, Pt.cells, Pt.slots] at X75 l_78 y_79 z_80 st81 hQ77
          subst l_78 y_79 z_80
          obtain ⟨rfl, N82, e83⟩ := hQ77
          have N84 := Fr.app N0 N82
          have k23 : own_K p e below (T71.setTop (mkF m 122 #[.val (.int a), .val (.long lv), .second, .val (.int m_), .val (.int (m_ &&& (3 : Int32))), .val (.double (FP.ddiv (FP.i2d a) (4621819117588971520 : UInt64))), .second, .val (.int (1 : Int32))] [(.int (own_o2 (FP.ddiv (FP.i2d a) (4621819117588971520 : UInt64))))])) (s₁.setTop (entryFrame m #[(.int a), (.long lv), (.int m_)] maxLocals)) := fun t hh => k22 t (st81 t hh)
          have k24 : own_K p e below (T71.setTop (mkF m 132 #[.val (.int a), .val (.long lv), .second, .val (.int m_), .val (.int (m_ &&& (3 : Int32))), .val (.double (FP.ddiv (FP.i2d a) (4621819117588971520 : UInt64))), .second, .val (.int (1 : Int32))] [(.int (1 : Int32))])) (s₁.setTop (entryFrame m #[(.int a), (.long lv), (.int m_)] maxLocals)) := fun t hh => k23 t (by
            refine XS.iload X75.here hx rfl (hb hby at_122) rfl ?_
            show Steps p.tables e below (T71.setTop (mkF m 124 #[.val (.int a), .val (.long lv), .second, .val (.int m_), .val (.int (m_ &&& (3 : Int32))), .val (.double (FP.ddiv (FP.i2d a) (4621819117588971520 : UInt64))), .second, .val (.int (1 : Int32))] [(.int (1 : Int32)), (.int (own_o2 (FP.ddiv (FP.i2d a) (4621819117588971520 : UInt64))))])) _
            refine XS.icmpNo X75.here hx rfl (hb hby at_124) rfl (own_icF_ne (own_m1_1 a c53 c60)) ?_
            show Steps p.tables e below (T71.setTop (mkF m 127 #[.val (.int a), .val (.long lv), .second, .val (.int m_), .val (.int (m_ &&& (3 : Int32))), .val (.double (FP.ddiv (FP.i2d a) (4621819117588971520 : UInt64))), .second, .val (.int (1 : Int32))] [])) _
            refine XS.iconst X75.here hx rfl (hb hby at_127) ?_
            show Steps p.tables e below (T71.setTop (mkF m 128 #[.val (.int a), .val (.long lv), .second, .val (.int m_), .val (.int (m_ &&& (3 : Int32))), .val (.double (FP.ddiv (FP.i2d a) (4621819117588971520 : UInt64))), .second, .val (.int (1 : Int32))] [(.int (1 : Int32))])) _
            refine XS.goto X75.here hx rfl (pc0 := 128) (pc' := 132) rfl (hb hby at_128) (by decide) (by decide) ?_
            show Steps p.tables e below (T71.setTop (mkF m 132 #[.val (.int a), .val (.long lv), .second, .val (.int m_), .val (.int (m_ &&& (3 : Int32))), .val (.double (FP.ddiv (FP.i2d a) (4621819117588971520 : UInt64))), .second, .val (.int (1 : Int32))] [(.int (1 : Int32))])) _
            exact hh)
          obtain ⟨fs, hr, hrun, hended, hW, hsame⟩ := X75.leave (v := some (.int (1 : Int32))) (fun h => by rw [Bd.returns] at h; cases h)
          refine ⟨_, _, k24 _ (retN X75 hx (t := .boolean) Bd.returns (by simp) (hb hby at_132) hr), hrun, hended, _, _, rfl, ?_, ⟨_, rfl⟩, hW, hsame.mono (by decide) (by decide)⟩
          show QL h0 n0 _ T71.heap _
          rw [e83]
          exact ⟨rfl, N84⟩
    ·
      have k25 : own_K p e below (s₁.setTop (mkF m 76 #[.val (.int a), .val (.long lv), .second, .val (.int m_), .val (.int (m_ &&& (3 : Int32))), .unset, .unset, .unset] [(.int (2 : Int32)), (.int (m_ &&& (3 : Int32)))])) (s₁.setTop (entryFrame m #[(.int a), (.long lv), (.int m_)] maxLocals)) := fun t hh => k13 t (by
        refine XS.icmpYes X0.here hx rfl (pc0 := 41) (pc' := 73) rfl (hb hby at_41) rfl (own_icT_ne c41) (by decide) (by decide) ?_
        show Steps p.tables e below (s₁.setTop (mkF m 73 #[.val (.int a), .val (.long lv), .second, .val (.int m_), .val (.int (m_ &&& (3 : Int32))), .unset, .unset, .unset] [])) _
        refine XS.iload X0.here hx rfl (hb hby at_73) rfl ?_
        show Steps p.tables e below (s₁.setTop (mkF m 75 #[.val (.int a), .val (.long lv), .second, .val (.int m_), .val (.int (m_ &&& (3 : Int32))), .unset, .unset, .unset] [(.int (m_ &&& (3 : Int32)))])) _
        refine XS.iconst X0.here hx rfl (hb hby at_75) ?_
        show Steps p.tables e below (s₁.setTop (mkF m 76 #[.val (.int a), .val (.long lv), .second, .val (.int m_), .val (.int (m_ &&& (3 : Int32))), .unset, .unset, .unset] [(.int (2 : Int32)), (.int (m_ &&& (3 : Int32)))])) _
        exact hh)
      by_cases c76 : (m_ &&& (3 : Int32)) = (2 : Int32)
      ·
        have k26 : own_K p e below (s₁.setTop (mkF m 88 #[.val (.int a), .val (.long lv), .second, .val (.int m_), .val (.int (m_ &&& (3 : Int32))), .val (.double (FP.ddiv (FP.i2d a) (4636737291354636288 : UInt64))), .second, .unset] [(.int a)])) (s₁.setTop (entryFrame m #[(.int a), (.long lv), (.int m_)] maxLocals)) := fun t hh => k25 t (by
          refine XS.icmpNo X0.here hx rfl (hb hby at_76) rfl (own_icF_ne c76) ?_
          show Steps p.tables e below (s₁.setTop (mkF m 79 #[.val (.int a), .val (.long lv), .second, .val (.int m_), .val (.int (m_ &&& (3 : Int32))), .unset, .unset, .unset] [])) _
          refine XS.iloadN X0.here hx rfl (hb hby at_79) rfl ?_
          show Steps p.tables e below (s₁.setTop (mkF m 80 #[.val (.int a), .val (.long lv), .second, .val (.int m_), .val (.int (m_ &&& (3 : Int32))), .unset, .unset, .unset] [(.int a)])) _
          refine XS.i2dS X0.here hx rfl (hb hby at_80) rfl rfl ?_
          show Steps p.tables e below (s₁.setTop (mkF m 81 #[.val (.int a), .val (.long lv), .second, .val (.int m_), .val (.int (m_ &&& (3 : Int32))), .unset, .unset, .unset] [(.double (FP.i2d a))])) _
          refine X0.ldc2DoubleC hx hown (mvT hZ (wT hw 6 rfl)) (g := (mkF m 81 #[.val (.int a), .val (.long lv), .second, .val (.int m_), .val (.int (m_ &&& (3 : Int32))), .unset, .unset, .unset] [(.double (FP.i2d a))])) rfl (hb hby at_81) _ ?_
          show Steps p.tables e below (s₁.setTop (mkF m 84 #[.val (.int a), .val (.long lv), .second, .val (.int m_), .val (.int (m_ &&& (3 : Int32))), .unset, .unset, .unset] [(.double (4636737291354636288 : UInt64)), (.double (FP.i2d a))])) _
          refine XS.ddivS X0.here hx rfl (hb hby at_84) rfl (own_q_no a 100 (by decide) (by decide) own_hun) rfl ?_
          show Steps p.tables e below (s₁.setTop (mkF m 85 #[.val (.int a), .val (.long lv), .second, .val (.int m_), .val (.int (m_ &&& (3 : Int32))), .unset, .unset, .unset] [(.double (FP.ddiv (FP.i2d a) (4636737291354636288 : UInt64)))])) _
          refine XS.dstore X0.here hx rfl (hb hby at_85) rfl (l' := #[.val (.int a), .val (.long lv), .second, .val (.int m_), .val (.int (m_ &&& (3 : Int32))), .val (.double (FP.ddiv (FP.i2d a) (4636737291354636288 : UInt64))), .second, .unset]) rfl ?_
          show Steps p.tables e below (s₁.setTop (mkF m 87 #[.val (.int a), .val (.long lv), .second, .val (.int m_), .val (.int (m_ &&& (3 : Int32))), .val (.double (FP.ddiv (FP.i2d a) (4636737291354636288 : UInt64))), .second, .unset] [])) _
          refine XS.iloadN X0.here hx rfl (hb hby at_87) rfl ?_
          show Steps p.tables e below (s₁.setTop (mkF m 88 #[.val (.int a), .val (.long lv), .second, .val (.int m_), .val (.int (m_ &&& (3 : Int32))), .val (.double (FP.ddiv (FP.i2d a) (4636737291354636288 : UInt64))), .second, .unset] [(.int a)])) _
          exact hh)
        by_cases c88 : a < 0
        ·
          have k27 : own_K p e below (s₁.setTop (mkF m 119 #[.val (.int a), .val (.long lv), .second, .val (.int m_), .val (.int (m_ &&& (3 : Int32))), .val (.double (FP.ddiv (FP.i2d a) (4636737291354636288 : UInt64))), .second, .val (.int (0 : Int32))] [(.double (FP.ddiv (FP.i2d a) (4636737291354636288 : UInt64)))])) (s₁.setTop (entryFrame m #[(.int a), (.long lv), (.int m_)] maxLocals)) := fun t hh => k26 t (by
            refine XS.ifYes X0.here hx rfl (pc0 := 88) (pc' := 102) rfl (hb hby at_88) rfl (own_ifT_lt c88) (by decide) (by decide) ?_
            show Steps p.tables e below (s₁.setTop (mkF m 102 #[.val (.int a), .val (.long lv), .second, .val (.int m_), .val (.int (m_ &&& (3 : Int32))), .val (.double (FP.ddiv (FP.i2d a) (4636737291354636288 : UInt64))), .second, .unset] [])) _
            refine XS.iconst X0.here hx rfl (hb hby at_102) ?_
            show Steps p.tables e below (s₁.setTop (mkF m 103 #[.val (.int a), .val (.long lv), .second, .val (.int m_), .val (.int (m_ &&& (3 : Int32))), .val (.double (FP.ddiv (FP.i2d a) (4636737291354636288 : UInt64))), .second, .unset] [(.int (0 : Int32))])) _
            refine XS.istore X0.here hx rfl (hb hby at_103) rfl (l' := #[.val (.int a), .val (.long lv), .second, .val (.int m_), .val (.int (m_ &&& (3 : Int32))), .val (.double (FP.ddiv (FP.i2d a) (4636737291354636288 : UInt64))), .second, .val (.int (0 : Int32))]) rfl ?_
            show Steps p.tables e below (s₁.setTop (mkF m 105 #[.val (.int a), .val (.long lv), .second, .val (.int m_), .val (.int (m_ &&& (3 : Int32))), .val (.double (FP.ddiv (FP.i2d a) (4636737291354636288 : UInt64))), .second, .val (.int (0 : Int32))] [])) _
            refine XS.goto X0.here hx rfl (pc0 := 105) (pc' := 117) rfl (hb hby at_105) (by decide) (by decide) ?_
            show Steps p.tables e below (s₁.setTop (mkF m 117 #[.val (.int a), .val (.long lv), .second, .val (.int m_), .val (.int (m_ &&& (3 : Int32))), .val (.double (FP.ddiv (FP.i2d a) (4636737291354636288 : UInt64))), .second, .val (.int (0 : Int32))] [])) _
            refine XS.dload X0.here hx rfl (hb hby at_117) rfl ?_
            show Steps p.tables e below (s₁.setTop (mkF m 119 #[.val (.int a), .val (.long lv), .second, .val (.int m_), .val (.int (m_ &&& (3 : Int32))), .val (.double (FP.ddiv (FP.i2d a) (4636737291354636288 : UInt64))), .second, .val (.int (0 : Int32))] [(.double (FP.ddiv (FP.i2d a) (4636737291354636288 : UInt64)))])) _
            exact hh)
          obtain ⟨_, _, ⟨T85, L86, k_87, n_88⟩, -, X89, ⟨Lc90, hQ91, l_92, y_93, z_94⟩, st95⟩ := Jvm.LawKit.callS X0 hx (y := (⟨"com/example/flueline/flueline/Method19", "isPossibleOxygen", "(D)Z"⟩ : MethodName)) hown (mvT hZ (wT hw 1 rfl)) (mvT hZ (wT hw 2 rfl)) (mvT hZ (wT hw 3 rfl)) (mvT hZ (wT hw 4 rfl)) (by decide) (backOf (W := 0) (rmA l Z a0 hw [] (FP.ddiv (FP.i2d a) (4636737291354636288 : UInt64)) h0 n0 Z0) hZ (wT hw 4 rfl) (wT hw 3 rfl) (by decide) (by decide)) (g := (mkF m 119 #[.val (.int a), .val (.long lv), .second, .val (.int m_), .val (.int (m_ &&& (3 : Int32))), .val (.double (FP.ddiv (FP.i2d a) (4636737291354636288 : UInt64))), .second, .val (.int (0 : Int32))] [(.double (FP.ddiv (FP.i2d a) (4636737291354636288 : UInt64)))])) rfl (by rw [hml]; rfl) (argsL := [(.double (FP.ddiv (FP.i2d a) (4636737291354636288 : UInt64)))]) (rest := []) (lenOf own_h14 rfl) rfl (by show 2 * 0 + _ ≤ _; exact Nat.le_of_eq rfl) (hb hby at_119) (fun _ _ => ⟨rfl, e0, (by decide : 0 + 0 ≤ _), (by decide : 0 + 0 ≤ _)⟩)
          dsimp only [Pt.U, Pt.locs, Pt.cells, Pt.slots] at X89 l_92 y_93 z_94 st95 hQ91
          subst l_92 y_93 z_94
          obtain ⟨rfl, N96, e97⟩ := hQ91
          have N98 := Fr.app N0 N96
          have k28 : own_K p e below (T85.setTop (mkF m 122 #[.val (.int a), .val (.long lv), .second, .val (.int m_), .val (.int (m_ &&& (3 : Int32))), .val (.double (FP.ddiv (FP.i2d a) (4636737291354636288 : UInt64))), .second, .val (.int (0 : Int32))] [(.int (own_o2 (FP.ddiv (FP.i2d a) (4636737291354636288 : UInt64))))])) (s₁.setTop (entryFrame m #[(.int a), (.long lv), (.int m_)] maxLocals)) := fun t hh => k27 t (st95 t hh)
          have k29 : own_K p e below (T85.setTop (mkF m 132 #[.val (.int a), .val (.long lv), .second, .val (.int m_), .val (.int (m_ &&& (3 : Int32))), .val (.double (FP.ddiv (FP.i2d a) (4636737291354636288 : UInt64))), .second, .val (.int (0 : Int32))] [(.int (1 : Int32))])) (s₁.setTop (entryFrame m #[(.int a), (.long lv), (.int m_)] maxLocals)) := fun t hh => k28 t (by
            refine XS.iload X89.here hx rfl (hb hby at_122) rfl ?_
            show Steps p.tables e below (T85.setTop (mkF m 124 #[.val (.int a), .val (.long lv), .second, .val (.int m_), .val (.int (m_ &&& (3 : Int32))), .val (.double (FP.ddiv (FP.i2d a) (4636737291354636288 : UInt64))), .second, .val (.int (0 : Int32))] [(.int (0 : Int32)), (.int (own_o2 (FP.ddiv (FP.i2d a) (4636737291354636288 : UInt64))))])) _
            refine XS.icmpNo X89.here hx rfl (hb hby at_124) rfl (own_icF_ne (own_m2_0 a (Or.inl c88))) ?_
            show Steps p.tables e below (T85.setTop (mkF m 127 #[.val (.int a), .val (.long lv), .second, .val (.int m_), .val (.int (m_ &&& (3 : Int32))), .val (.double (FP.ddiv (FP.i2d a) (4636737291354636288 : UInt64))), .second, .val (.int (0 : Int32))] [])) _
            refine XS.iconst X89.here hx rfl (hb hby at_127) ?_
            show Steps p.tables e below (T85.setTop (mkF m 128 #[.val (.int a), .val (.long lv), .second, .val (.int m_), .val (.int (m_ &&& (3 : Int32))), .val (.double (FP.ddiv (FP.i2d a) (4636737291354636288 : UInt64))), .second, .val (.int (0 : Int32))] [(.int (1 : Int32))])) _
            refine XS.goto X89.here hx rfl (pc0 := 128) (pc' := 132) rfl (hb hby at_128) (by decide) (by decide) ?_
            show Steps p.tables e below (T85.setTop (mkF m 132 #[.val (.int a), .val (.long lv), .second, .val (.int m_), .val (.int (m_ &&& (3 : Int32))), .val (.double (FP.ddiv (FP.i2d a) (4636737291354636288 : UInt64))), .second, .val (.int (0 : Int32))] [(.int (1 : Int32))])) _
            exact hh)
          obtain ⟨fs, hr, hrun, hended, hW, hsame⟩ := X89.leave (v := some (.int (1 : Int32))) (fun h => by rw [Bd.returns] at h; cases h)
          refine ⟨_, _, k29 _ (retN X89 hx (t := .boolean) Bd.returns (by simp) (hb hby at_132) hr), hrun, hended, _, _, rfl, ?_, ⟨_, rfl⟩, hW, hsame.mono (by decide) (by decide)⟩
          show QL h0 n0 _ T85.heap _
          rw [e97]
          exact ⟨rfl, N98⟩
        ·
          have k30 : own_K p e below (s₁.setTop (mkF m 95 #[.val (.int a), .val (.long lv), .second, .val (.int m_), .val (.int (m_ &&& (3 : Int32))), .val (.double (FP.ddiv (FP.i2d a) (4636737291354636288 : UInt64))), .second, .unset] [(.int (2089 : Int32)), (.int a)])) (s₁.setTop (entryFrame m #[(.int a), (.long lv), (.int m_)] maxLocals)) := fun t hh => k26 t (by
            refine XS.ifNo X0.here hx rfl (hb hby at_88) rfl (own_ifF_lt c88) ?_
            show Steps p.tables e below (s₁.setTop (mkF m 91 #[.val (.int a), .val (.long lv), .second, .val (.int m_), .val (.int (m_ &&& (3 : Int32))), .val (.double (FP.ddiv (FP.i2d a) (4636737291354636288 : UInt64))), .second, .unset] [])) _
            refine XS.iloadN X0.here hx rfl (hb hby at_91) rfl ?_
            show Steps p.tables e below (s₁.setTop (mkF m 92 #[.val (.int a), .val (.long lv), .second, .val (.int m_), .val (.int (m_ &&& (3 : Int32))), .val (.double (FP.ddiv (FP.i2d a) (4636737291354636288 : UInt64))), .second, .unset] [(.int a)])) _
            refine XS.sipush X0.here hx rfl (hb hby at_92) ?_
            show Steps p.tables e below (s₁.setTop (mkF m 95 #[.val (.int a), .val (.long lv), .second, .val (.int m_), .val (.int (m_ &&& (3 : Int32))), .val (.double (FP.ddiv (FP.i2d a) (4636737291354636288 : UInt64))), .second, .unset] [(.int (2089 : Int32)), (.int a)])) _
            exact hh)
          by_cases c95 : (2089 : Int32) < a
          ·
            have k31 : own_K p e below (s₁.setTop (mkF m 119 #[.val (.int a), .val (.long lv), .second, .val (.int m_), .val (.int (m_ &&& (3 : Int32))), .val (.double (FP.ddiv (FP.i2d a) (4636737291354636288 : UInt64))), .second, .val (.int (0 : Int32))] [(.double (FP.ddiv (FP.i2d a) (4636737291354636288 : UInt64)))])) (s₁.setTop (entryFrame m #[(.int a), (.long lv), (.int m_)] maxLocals)) := fun t hh => k30 t (by
              refine XS.icmpYes X0.here hx rfl (pc0 := 95) (pc' := 102) rfl (hb hby at_95) rfl (own_icT_gt c95) (by decide) (by decide) ?_
              show Steps p.tables e below (s₁.setTop (mkF m 102 #[.val (.int a), .val (.long lv), .second, .val (.int m_), .val (.int (m_ &&& (3 : Int32))), .val (.double (FP.ddiv (FP.i2d a) (4636737291354636288 : UInt64))), .second, .unset] [])) _
              refine XS.iconst X0.here hx rfl (hb hby at_102) ?_
              show Steps p.tables e below (s₁.setTop (mkF m 103 #[.val (.int a), .val (.long lv), .second, .val (.int m_), .val (.int (m_ &&& (3 : Int32))), .val (.double (FP.ddiv (FP.i2d a) (4636737291354636288 : UInt64))), .second, .unset] [(.int (0 : Int32))])) _
              refine XS.istore X0.here hx rfl (hb hby at_103) rfl (l' := #[.val (.int a), .val (.long lv), .second, .val (.int m_), .val (.int (m_ &&& (3 : Int32))), .val (.double (FP.ddiv (FP.i2d a) (4636737291354636288 : UInt64))), .second, .val (.int (0 : Int32))]) rfl ?_
              show Steps p.tables e below (s₁.setTop (mkF m 105 #[.val (.int a), .val (.long lv), .second, .val (.int m_), .val (.int (m_ &&& (3 : Int32))), .val (.double (FP.ddiv (FP.i2d a) (4636737291354636288 : UInt64))), .second, .val (.int (0 : Int32))] [])) _
              refine XS.goto X0.here hx rfl (pc0 := 105) (pc' := 117) rfl (hb hby at_105) (by decide) (by decide) ?_
              show Steps p.tables e below (s₁.setTop (mkF m 117 #[.val (.int a), .val (.long lv), .second, .val (.int m_), .val (.int (m_ &&& (3 : Int32))), .val (.double (FP.ddiv (FP.i2d a) (4636737291354636288 : UInt64))), .second, .val (.int (0 : Int32))] [])) _
              refine XS.dload X0.here hx rfl (hb hby at_117) rfl ?_
              show Steps p.tables e below (s₁.setTop (mkF m 119 #[.val (.int a), .val (.long lv), .second, .val (.int m_), .val (.int (m_ &&& (3 : Int32))), .val (.double (FP.ddiv (FP.i2d a) (4636737291354636288 : UInt64))), .second, .val (.int (0 : Int32))] [(.double (FP.ddiv (FP.i2d a) (4636737291354636288 : UInt64)))])) _
              exact hh)
            obtain ⟨_, _, ⟨T99, L100, k_101, n_102⟩, -, X103, ⟨Lc104, hQ105, l_106, y_107, z_108⟩, st109⟩ := Jvm.LawKit.callS X0 hx (y := (⟨"com/example/flueline/flueline/Method19", "isPossibleOxygen", "(D)Z"⟩ : MethodName)) hown (mvT hZ (wT hw 1 rfl)) (mvT hZ (wT hw 2 rfl)) (mvT hZ (wT hw 3 rfl)) (mvT hZ (wT hw 4 rfl)) (by decide) (backOf (W := 0) (rmA l Z a0 hw [] (FP.ddiv (FP.i2d a) (4636737291354636288 : UInt64)) h0 n0 Z0) hZ (wT hw 4 rfl) (wT hw 3 rfl) (by decide) (by decide)) (g := (mkF m 119 #[.val (.int a), .val (.long lv), .second, .val (.int m_), .val (.int (m_ &&& (3 : Int32))), .val (.double (FP.ddiv (FP.i2d a) (4636737291354636288 : UInt64))), .second, .val (.int (0 : Int32))] [(.double (FP.ddiv (FP.i2d a) (4636737291354636288 : UInt64)))])) rfl (by rw [hml]; rfl) (argsL := [(.double (FP.ddiv (FP.i2d a) (4636737291354636288 : UInt64)))]) (rest := []) (lenOf own_h14 rfl) rfl (by show 2 * 0 + _ ≤ _; exact Nat.le_of_eq rfl) (hb hby at_119) (fun _ _ => ⟨rfl, e0, (by decide : 0 + 0 ≤ _), (by decide : 0 + 0 ≤ _)⟩)
            dsimp only [Pt.U, Pt.locs, Pt.cells, Pt.slots] at X103 l_106 y_107 z_108 st109 hQ105
            subst l_106 y_107 z_108
            obtain ⟨rfl, N110, e111⟩ := hQ105
            have N112 := Fr.app N0 N110
            have k32 : own_K p e below (T99.setTop (mkF m 122 #[.val (.int a), .val (.long lv), .second, .val (.int m_), .val (.int (m_ &&& (3 : Int32))), .val (.double (FP.ddiv (FP.i2d a) (4636737291354636288 : UInt64))), .second, .val (.int (0 : Int32))] [(.int (own_o2 (FP.ddiv (FP.i2d a) (4636737291354636288 : UInt64))))])) (s₁.setTop (entryFrame m #[(.int a), (.long lv), (.int m_)] maxLocals)) := fun t hh => k31 t (st109 t hh)
            have k33 : own_K p e below (T99.setTop (mkF m 132 #[.val (.int a), .val (.long lv), .second, .val (.int m_), .val (.int (m_ &&& (3 : Int32))), .val (.double (FP.ddiv (FP.i2d a) (4636737291354636288 : UInt64))), .second, .val (.int (0 : Int32))] [(.int (1 : Int32))])) (s₁.setTop (entryFrame m #[(.int a), (.long lv), (.int m_)] maxLocals)) := fun t hh => k32 t (by
              refine XS.iload X103.here hx rfl (hb hby at_122) rfl ?_
              show Steps p.tables e below (T99.setTop (mkF m 124 #[.val (.int a), .val (.long lv), .second, .val (.int m_), .val (.int (m_ &&& (3 : Int32))), .val (.double (FP.ddiv (FP.i2d a) (4636737291354636288 : UInt64))), .second, .val (.int (0 : Int32))] [(.int (0 : Int32)), (.int (own_o2 (FP.ddiv (FP.i2d a) (4636737291354636288 : UInt64))))])) _
              refine XS.icmpNo X103.here hx rfl (hb hby at_124) rfl (own_icF_ne (own_m2_0 a (Or.inr c95))) ?_
              show Steps p.tables e below (T99.setTop (mkF m 127 #[.val (.int a), .val (.long lv), .second, .val (.int m_), .val (.int (m_ &&& (3 : Int32))), .val (.double (FP.ddiv (FP.i2d a) (4636737291354636288 : UInt64))), .second, .val (.int (0 : Int32))] [])) _
              refine XS.iconst X103.here hx rfl (hb hby at_127) ?_
              show Steps p.tables e below (T99.setTop (mkF m 128 #[.val (.int a), .val (.long lv), .second, .val (.int m_), .val (.int (m_ &&& (3 : Int32))), .val (.double (FP.ddiv (FP.i2d a) (4636737291354636288 : UInt64))), .second, .val (.int (0 : Int32))] [(.int (1 : Int32))])) _
              refine XS.goto X103.here hx rfl (pc0 := 128) (pc' := 132) rfl (hb hby at_128) (by decide) (by decide) ?_
              show Steps p.tables e below (T99.setTop (mkF m 132 #[.val (.int a), .val (.long lv), .second, .val (.int m_), .val (.int (m_ &&& (3 : Int32))), .val (.double (FP.ddiv (FP.i2d a) (4636737291354636288 : UInt64))), .second, .val (.int (0 : Int32))] [(.int (1 : Int32))])) _
              exact hh)
            obtain ⟨fs, hr, hrun, hended, hW, hsame⟩ := X103.leave (v := some (.int (1 : Int32))) (fun h => by rw [Bd.returns] at h; cases h)
            refine ⟨_, _, k33 _ (retN X103 hx (t := .boolean) Bd.returns (by simp) (hb hby at_132) hr), hrun, hended, _, _, rfl, ?_, ⟨_, rfl⟩, hW, hsame.mono (by decide) (by decide)⟩
            show QL h0 n0 _ T99.heap _
            rw [e111]
            exact ⟨rfl, N112⟩
          ·
            have k34 : own_K p e below (s₁.setTop (mkF m 119 #[.val (.int a), .val (.long lv), .second, .val (.int m_), .val (.int (m_ &&& (3 : Int32))), .val (.double (FP.ddiv (FP.i2d a) (4636737291354636288 : UInt64))), .second, .val (.int (1 : Int32))] [(.double (FP.ddiv (FP.i2d a) (4636737291354636288 : UInt64)))])) (s₁.setTop (entryFrame m #[(.int a), (.long lv), (.int m_)] maxLocals)) := fun t hh => k30 t (by
              refine XS.icmpNo X0.here hx rfl (hb hby at_95) rfl (own_icF_gt c95) ?_
              show Steps p.tables e below (s₁.setTop (mkF m 98 #[.val (.int a), .val (.long lv), .second, .val (.int m_), .val (.int (m_ &&& (3 : Int32))), .val (.double (FP.ddiv (FP.i2d a) (4636737291354636288 : UInt64))), .second, .unset] [])) _
              refine XS.iconst X0.here hx rfl (hb hby at_98) ?_
              show Steps p.tables e below (s₁.setTop (mkF m 99 #[.val (.int a), .val (.long lv), .second, .val (.int m_), .val (.int (m_ &&& (3 : Int32))), .val (.double (FP.ddiv (FP.i2d a) (4636737291354636288 : UInt64))), .second, .unset] [(.int (1 : Int32))])) _
              refine XS.goto X0.here hx rfl (pc0 := 99) (pc' := 103) rfl (hb hby at_99) (by decide) (by decide) ?_
              show Steps p.tables e below (s₁.setTop (mkF m 103 #[.val (.int a), .val (.long lv), .second, .val (.int m_), .val (.int (m_ &&& (3 : Int32))), .val (.double (FP.ddiv (FP.i2d a) (4636737291354636288 : UInt64))), .second, .unset] [(.int (1 : Int32))])) _
              refine XS.istore X0.here hx rfl (hb hby at_103) rfl (l' := #[.val (.int a), .val (.long lv), .second, .val (.int m_), .val (.int (m_ &&& (3 : Int32))), .val (.double (FP.ddiv (FP.i2d a) (4636737291354636288 : UInt64))), .second, .val (.int (1 : Int32))]) rfl ?_
              show Steps p.tables e below (s₁.setTop (mkF m 105 #[.val (.int a), .val (.long lv), .second, .val (.int m_), .val (.int (m_ &&& (3 : Int32))), .val (.double (FP.ddiv (FP.i2d a) (4636737291354636288 : UInt64))), .second, .val (.int (1 : Int32))] [])) _
              refine XS.goto X0.here hx rfl (pc0 := 105) (pc' := 117) rfl (hb hby at_105) (by decide) (by decide) ?_
              show Steps p.tables e below (s₁.setTop (mkF m 117 #[.val (.int a), .val (.long lv), .second, .val (.int m_), .val (.int (m_ &&& (3 : Int32))), .val (.double (FP.ddiv (FP.i2d a) (4636737291354636288 : UInt64))), .second, .val (.int (1 : Int32))] [])) _
              refine XS.dload X0.here hx rfl (hb hby at_117) rfl ?_
              show Steps p.tables e below (s₁.setTop (mkF m 119 #[.val (.int a), .val (.long lv), .second, .val (.int m_), .val (.int (m_ &&& (3 : Int32))), .val (.double (FP.ddiv (FP.i2d a) (4636737291354636288 : UInt64))), .second, .val (.int (1 : Int32))] [(.double (FP.ddiv (FP.i2d a) (4636737291354636288 : UInt64)))])) _
              exact hh)
            obtain ⟨_, _, ⟨T113, L114, k_115, n_116⟩, -, X117, ⟨Lc118, hQ119, l_120, y_121, z_122⟩, st123⟩ := Jvm.LawKit.callS X0 hx (y := (⟨"com/example/flueline/flueline/Method19", "isPossibleOxygen", "(D)Z"⟩ : MethodName)) hown (mvT hZ (wT hw 1 rfl)) (mvT hZ (wT hw 2 rfl)) (mvT hZ (wT hw 3 rfl)) (mvT hZ (wT hw 4 rfl)) (by decide) (backOf (W := 0) (rmA l Z a0 hw [] (FP.ddiv (FP.i2d a) (4636737291354636288 : UInt64)) h0 n0 Z0) hZ (wT hw 4 rfl) (wT hw 3 rfl) (by decide) (by decide)) (g := (mkF m 119 #[.val (.int a), .val (.long lv), .second, .val (.int m_), .val (.int (m_ &&& (3 : Int32))), .val (.double (FP.ddiv (FP.i2d a) (4636737291354636288 : UInt64))), .second, .val (.int (1 : Int32))] [(.double (FP.ddiv (FP.i2d a) (4636737291354636288 : UInt64)))])) rfl (by rw [hml]; rfl) (argsL := [(.double (FP.ddiv (FP.i2d a) (4636737291354636288 : UInt64)))]) (rest := []) (lenOf own_h14 rfl) rfl (by show 2 * 0 + _ ≤ _; exact Nat.le_of_eq rfl) (hb hby at_119) (fun _ _ => ⟨rfl, e0, (by decide : 0 + 0 ≤ _), (by decide : 0 + 0 ≤ _)⟩)
            dsimp only [Pt.U, Pt.locs, Pt.cells, Pt.slots] at X117 l_120 y_121 z_122 st123 hQ119
            subst l_120 y_121 z_122
            obtain ⟨rfl, N124, e125⟩ := hQ119
            have N126 := Fr.app N0 N124
            have k35 : own_K p e below (T113.setTop (mkF m 122 #[.val (.int a), .val (.long lv), .second, .val (.int m_), .val (.int (m_ &&& (3 : Int32))), .val (.double (FP.ddiv (FP.i2d a) (4636737291354636288 : UInt64))), .second, .val (.int (1 : Int32))] [(.int (own_o2 (FP.ddiv (FP.i2d a) (4636737291354636288 : UInt64))))])) (s₁.setTop (entryFrame m #[(.int a), (.long lv), (.int m_)] maxLocals)) := fun t hh => k34 t (st123 t hh)
            have k36 : own_K p e below (T113.setTop (mkF m 132 #[.val (.int a), .val (.long lv), .second, .val (.int m_), .val (.int (m_ &&& (3 : Int32))), .val (.double (FP.ddiv (FP.i2d a) (4636737291354636288 : UInt64))), .second, .val (.int (1 : Int32))] [(.int (1 : Int32))])) (s₁.setTop (entryFrame m #[(.int a), (.long lv), (.int m_)] maxLocals)) := fun t hh => k35 t (by
              refine XS.iload X117.here hx rfl (hb hby at_122) rfl ?_
              show Steps p.tables e below (T113.setTop (mkF m 124 #[.val (.int a), .val (.long lv), .second, .val (.int m_), .val (.int (m_ &&& (3 : Int32))), .val (.double (FP.ddiv (FP.i2d a) (4636737291354636288 : UInt64))), .second, .val (.int (1 : Int32))] [(.int (1 : Int32)), (.int (own_o2 (FP.ddiv (FP.i2d a) (4636737291354636288 : UInt64))))])) _
              refine XS.icmpNo X117.here hx rfl (hb hby at_124) rfl (own_icF_ne (own_m2_1 a c88 c95)) ?_
              show Steps p.tables e below (T113.setTop (mkF m 127 #[.val (.int a), .val (.long lv), .second, .val (.int m_), .val (.int (m_ &&& (3 : Int32))), .val (.double (FP.ddiv (FP.i2d a) (4636737291354636288 : UInt64))), .second, .val (.int (1 : Int32))] [])) _
              refine XS.iconst X117.here hx rfl (hb hby at_127) ?_
              show Steps p.tables e below (T113.setTop (mkF m 128 #[.val (.int a), .val (.long lv), .second, .val (.int m_), .val (.int (m_ &&& (3 : Int32))), .val (.double (FP.ddiv (FP.i2d a) (4636737291354636288 : UInt64))), .second, .val (.int (1 : Int32))] [(.int (1 : Int32))])) _
              refine XS.goto X117.here hx rfl (pc0 := 128) (pc' := 132) rfl (hb hby at_128) (by decide) (by decide) ?_
              show Steps p.tables e below (T113.setTop (mkF m 132 #[.val (.int a), .val (.long lv), .second, .val (.int m_), .val (.int (m_ &&& (3 : Int32))), .val (.double (FP.ddiv (FP.i2d a) (4636737291354636288 : UInt64))), .second, .val (.int (1 : Int32))] [(.int (1 : Int32))])) _
              exact hh)
            obtain ⟨fs, hr, hrun, hended, hW, hsame⟩ := X117.leave (v := some (.int (1 : Int32))) (fun h => by rw [Bd.returns] at h; cases h)
            refine ⟨_, _, k36 _ (retN X117 hx (t := .boolean) Bd.returns (by simp) (hb hby at_132) hr), hrun, hended, _, _, rfl, ?_, ⟨_, rfl⟩, hW, hsame.mono (by decide) (by decide)⟩
            show QL h0 n0 _ T113.heap _
            rw [e125]
            exact ⟨rfl, N126⟩
      ·
        have k37 : own_K p e below (s₁.setTop (mkF m 119 #[.val (.int a), .val (.long lv), .second, .val (.int m_), .val (.int (m_ &&& (3 : Int32))), .val (.double (FP.dmul FP.dconst0 (FP.i2d a))), .second, .val (.int (1 : Int32))] [(.double (FP.dmul FP.dconst0 (FP.i2d a)))])) (s₁.setTop (entryFrame m #[(.int a), (.long lv), (.int m_)] maxLocals)) := fun t hh => k25 t (by
          refine XS.icmpYes X0.here hx rfl (pc0 := 76) (pc' := 108) rfl (hb hby at_76) rfl (own_icT_ne c76) (by decide) (by decide) ?_
          show Steps p.tables e below (s₁.setTop (mkF m 108 #[.val (.int a), .val (.long lv), .second, .val (.int m_), .val (.int (m_ &&& (3 : Int32))), .unset, .unset, .unset] [])) _
          refine XS.dconst0 X0.here hx rfl (hb hby at_108) rfl ?_
          show Steps p.tables e below (s₁.setTop (mkF m 109 #[.val (.int a), .val (.long lv), .second, .val (.int m_), .val (.int (m_ &&& (3 : Int32))), .unset, .unset, .unset] [(.double FP.dconst0)])) _
          refine XS.iloadN X0.here hx rfl (hb hby at_109) rfl ?_
          show Steps p.tables e below (s₁.setTop (mkF m 110 #[.val (.int a), .val (.long lv), .second, .val (.int m_), .val (.int (m_ &&& (3 : Int32))), .unset, .unset, .unset] [(.int a), (.double FP.dconst0)])) _
          refine XS.i2dS X0.here hx rfl (hb hby at_110) rfl rfl ?_
          show Steps p.tables e below (s₁.setTop (mkF m 111 #[.val (.int a), .val (.long lv), .second, .val (.int m_), .val (.int (m_ &&& (3 : Int32))), .unset, .unset, .unset] [(.double (FP.i2d a)), (.double FP.dconst0)])) _
          refine XS.dmulS X0.here hx rfl (hb hby at_111) rfl (own_m3_dy a).no rfl ?_
          show Steps p.tables e below (s₁.setTop (mkF m 112 #[.val (.int a), .val (.long lv), .second, .val (.int m_), .val (.int (m_ &&& (3 : Int32))), .unset, .unset, .unset] [(.double (FP.dmul FP.dconst0 (FP.i2d a)))])) _
          refine XS.dstore X0.here hx rfl (hb hby at_112) rfl (l' := #[.val (.int a), .val (.long lv), .second, .val (.int m_), .val (.int (m_ &&& (3 : Int32))), .val (.double (FP.dmul FP.dconst0 (FP.i2d a))), .second, .unset]) rfl ?_
          show Steps p.tables e below (s₁.setTop (mkF m 114 #[.val (.int a), .val (.long lv), .second, .val (.int m_), .val (.int (m_ &&& (3 : Int32))), .val (.double (FP.dmul FP.dconst0 (FP.i2d a))), .second, .unset] [])) _
          refine XS.iconst X0.here hx rfl (hb hby at_114) ?_
          show Steps p.tables e below (s₁.setTop (mkF m 115 #[.val (.int a), .val (.long lv), .second, .val (.int m_), .val (.int (m_ &&& (3 : Int32))), .val (.double (FP.dmul FP.dconst0 (FP.i2d a))), .second, .unset] [(.int (1 : Int32))])) _
          refine XS.istore X0.here hx rfl (hb hby at_115) rfl (l' := #[.val (.int a), .val (.long lv), .second, .val (.int m_), .val (.int (m_ &&& (3 : Int32))), .val (.double (FP.dmul FP.dconst0 (FP.i2d a))), .second, .val (.int (1 : Int32))]) rfl ?_
          show Steps p.tables e below (s₁.setTop (mkF m 117 #[.val (.int a), .val (.long lv), .second, .val (.int m_), .val (.int (m_ &&& (3 : Int32))), .val (.double (FP.dmul FP.dconst0 (FP.i2d a))), .second, .val (.int (1 : Int32))] [])) _
          refine XS.dload X0.here hx rfl (hb hby at_117) rfl ?_
          show Steps p.tables e below (s₁.setTop (mkF m 119 #[.val (.int a), .val (.long lv), .second, .val (.int m_), .val (.int (m_ &&& (3 : Int32))), .val (.double (FP.dmul FP.dconst0 (FP.i2d a))), .second, .val (.int (1 : Int32))] [(.double (FP.dmul FP.dconst0 (FP.i2d a)))])) _
          exact hh)
        obtain ⟨_, _, ⟨T127, L128, k_129, n_130⟩, -, X131, ⟨Lc132, hQ133, l_134, y_135, z_136⟩, st137⟩ := Jvm.LawKit.callS X0 hx (y := (⟨"com/example/flueline/flueline/Method19", "isPossibleOxygen", "(D)Z"⟩ : MethodName)) hown (mvT hZ (wT hw 1 rfl)) (mvT hZ (wT hw 2 rfl)) (mvT hZ (wT hw 3 rfl)) (mvT hZ (wT hw 4 rfl)) (by decide) (backOf (W := 0) (rmA l Z a0 hw [] (FP.dmul FP.dconst0 (FP.i2d a)) h0 n0 Z0) hZ (wT hw 4 rfl) (wT hw 3 rfl) (by decide) (by decide)) (g := (mkF m 119 #[.val (.int a), .val (.long lv), .second, .val (.int m_), .val (.int (m_ &&& (3 : Int32))), .val (.double (FP.dmul FP.dconst0 (FP.i2d a))), .second, .val (.int (1 : Int32))] [(.double (FP.dmul FP.dconst0 (FP.i2d a)))])) rfl (by rw [hml]; rfl) (argsL := [(.double (FP.dmul FP.dconst0 (FP.i2d a)))]) (rest := []) (lenOf own_h14 rfl) rfl (by show 2 * 0 + _ ≤ _; exact Nat.le_of_eq rfl) (hb hby at_119) (fun _ _ => ⟨rfl, e0, (by decide : 0 + 0 ≤ _), (by decide : 0 + 0 ≤ _)⟩)
        dsimp only [Pt.U, Pt.locs, Pt.cells, Pt.slots] at X131 l_134 y_135 z_136 st137 hQ133
        subst l_134 y_135 z_136
        obtain ⟨rfl, N138, e139⟩ := hQ133
        have N140 := Fr.app N0 N138
        have k38 : own_K p e below (T127.setTop (mkF m 122 #[.val (.int a), .val (.long lv), .second, .val (.int m_), .val (.int (m_ &&& (3 : Int32))), .val (.double (FP.dmul FP.dconst0 (FP.i2d a))), .second, .val (.int (1 : Int32))] [(.int (own_o2 (FP.dmul FP.dconst0 (FP.i2d a))))])) (s₁.setTop (entryFrame m #[(.int a), (.long lv), (.int m_)] maxLocals)) := fun t hh => k37 t (st137 t hh)
        have k39 : own_K p e below (T127.setTop (mkF m 132 #[.val (.int a), .val (.long lv), .second, .val (.int m_), .val (.int (m_ &&& (3 : Int32))), .val (.double (FP.dmul FP.dconst0 (FP.i2d a))), .second, .val (.int (1 : Int32))] [(.int (1 : Int32))])) (s₁.setTop (entryFrame m #[(.int a), (.long lv), (.int m_)] maxLocals)) := fun t hh => k38 t (by
          refine XS.iload X131.here hx rfl (hb hby at_122) rfl ?_
          show Steps p.tables e below (T127.setTop (mkF m 124 #[.val (.int a), .val (.long lv), .second, .val (.int m_), .val (.int (m_ &&& (3 : Int32))), .val (.double (FP.dmul FP.dconst0 (FP.i2d a))), .second, .val (.int (1 : Int32))] [(.int (1 : Int32)), (.int (own_o2 (FP.dmul FP.dconst0 (FP.i2d a))))])) _
          refine XS.icmpNo X131.here hx rfl (hb hby at_124) rfl (own_icF_ne (own_m3_1 a)) ?_
          show Steps p.tables e below (T127.setTop (mkF m 127 #[.val (.int a), .val (.long lv), .second, .val (.int m_), .val (.int (m_ &&& (3 : Int32))), .val (.double (FP.dmul FP.dconst0 (FP.i2d a))), .second, .val (.int (1 : Int32))] [])) _
          refine XS.iconst X131.here hx rfl (hb hby at_127) ?_
          show Steps p.tables e below (T127.setTop (mkF m 128 #[.val (.int a), .val (.long lv), .second, .val (.int m_), .val (.int (m_ &&& (3 : Int32))), .val (.double (FP.dmul FP.dconst0 (FP.i2d a))), .second, .val (.int (1 : Int32))] [(.int (1 : Int32))])) _
          refine XS.goto X131.here hx rfl (pc0 := 128) (pc' := 132) rfl (hb hby at_128) (by decide) (by decide) ?_
          show Steps p.tables e below (T127.setTop (mkF m 132 #[.val (.int a), .val (.long lv), .second, .val (.int m_), .val (.int (m_ &&& (3 : Int32))), .val (.double (FP.dmul FP.dconst0 (FP.i2d a))), .second, .val (.int (1 : Int32))] [(.int (1 : Int32))])) _
          exact hh)
        obtain ⟨fs, hr, hrun, hended, hW, hsame⟩ := X131.leave (v := some (.int (1 : Int32))) (fun h => by rw [Bd.returns] at h; cases h)
        refine ⟨_, _, k39 _ (retN X131 hx (t := .boolean) Bd.returns (by simp) (hb hby at_132) hr), hrun, hended, _, _, rfl, ?_, ⟨_, rfl⟩, hW, hsame.mono (by decide) (by decide)⟩
        show QL h0 n0 _ T127.heap _
        rw [e139]
        exact ⟨rfl, N140⟩
set_option maxRecDepth 65536 in
set_option maxHeartbeats 40000000 in
theorem comes_1 {Post : Tables → Env → Array Value → State → Outcome → State → Prop} (hpost : ∀ tb e args s v u, (limb_1_1.after args s (.returned v) u = true ∧ limb_1_2.after args s (.returned v) u = true ∧ True) → FrameEnd s (.returned v) u (Jvm.fieldLocs frame_1_writes args s ++ Jvm.arrayLocs frame_1_arrays args s ++ Jvm.staticLocs frame_1_statics s) 0 0 → Post tb e args s (.returned v) u) :
    ArmFor flags0 classFile x code maxLocals ret World_1 tables_1 room_1 Calls_1 rest_1 Pre_1 Post := by
  intro l hfl _ _ p e ha hc hk s m args below hf hA hF happ hP
  obtain ⟨hcalls, hrest, hpre⟩ := hP
  obtain ⟨-, -, -, hnamed, -, -, -, hat⟩ := (Spec.applies_iff hf).mp happ
  obtain ⟨hg, hn⟩ := and_e (Cond.before_iff.mp (show (Jvm.Cond.and given_1 narrow_1).before args s = true from hpre))
  obtain ⟨h1, g0⟩ := and_e hg
  obtain ⟨j0, g1⟩ := and_e g0
  obtain ⟨j1, g2⟩ := and_e g1
  have j2 := g2
  obtain ⟨w0, w1, w2, rfl⟩ : ∃ w0 w1 w2 : Value, args = #[w0, w1, w2] := by
    have hs : args.size = 3 := by simpa [Cond.value, given_1] using h1
    obtain ⟨L⟩ := args
    match L, hs with
    | [w0, w1, w2], _ => exact ⟨w0, w1, w2, rfl⟩
  have hw := fun d (hd : d ∈ tables_1) => atoms_spec (ws := Jvm.Cond.code x code maxLocals ret :: tables_1) hat d (List.mem_cons_of_mem _ hd)
  have hfit : Fit s := fun {y c} hc i hi => by
    obtain ⟨ha, rfl⟩ := Array.getElem?_eq_some_iff.mp hc
    have q := List.all_eq_true.mp ((Array.all_eq_true_iff_forall_mem.mp hF) _ (Array.getElem_mem ha)) i (List.mem_range.mpr hi)
    simpa [Array.getElem?_eq_getElem hi] using q
  obtain ⟨i0, q0⟩ := is_v j0
  obtain rfl : w0 = (.int i0) := Option.some.inj q0
  obtain ⟨i1, q1⟩ := isL_v j1
  obtain rfl : w1 = (.long i1) := Option.some.inj q1
  obtain ⟨i2, q2⟩ := is_v j2
  obtain rfl : w2 = (.int i2) := Option.some.inj q2
  obtain ⟨n, o, h1, h2, h3, _, L, rfl, ⟨rfl, N⟩, hq⟩ := rmL l s _ hw tables_1 i0 i1 i2 s.heap s.heap.size (Nat.le_refl _)  p e ha hc hk s m _ below hf ((Spec.applies_iff_loose hf).mp happ).1 ⟨rfl, State.Warmed39.refl s, rfl⟩ trivial
  refine ⟨n, _, h1, h2, h3, hpost _ _ _ _ _ _ ⟨Cond.after_iff.mpr rfl, Cond.after_iff.mpr (eq_i res_at (Term.int_eval (1)) rfl), trivial⟩ ⟨hq.1, hq.2.1, (hq.2.2.sift fun y hy => Or.inr (N y hy)).mono (by decide) (by decide)⟩⟩
theorem main_1_1 : Claimed_1_1 := comes_1 fun _ _ _ _ _ _ h hF => ⟨h.1, hF⟩
theorem main_1_2 : Claimed_1_2 := comes_1 fun _ _ _ _ _ _ h hF => ⟨h.2.1, hF⟩
end Jvm.Pilot.@@N@@
namespace Jvm.Pilot.@@N@@
open Jvm Jvm.ClassFile Sem Op Lib Jvm.Free Jvm.Stand Jvm.Pilot.@@N@@.Jvm.D
/-! MADE BY PROGRAM (witnessworld.py) out of the Statement's table words and the real class files: 9 classes; the members and pool entries that the words name. The judged class is class 1, her method 1. -/
namespace start1
open Jvm.ClassFile
def u (s : String) : CpInfo := .utf8 (stringToUtf16 s)
/-- a pool by its gaps: so many unusable entries, then the entry; so many at the end -/
def gap : Nat → List CpInfo → List CpInfo
  | 0, r => r
  | n + 1, r => .unusable :: gap n r
def poolList (es : List (Nat × CpInfo)) (last : Nat) : List CpInfo := es.foldr (fun e r => gap e.1 (e.2 :: r)) (gap last [])
def pool (es : List (Nat × CpInfo)) (last : Nat) : Array CpInfo := ⟨poolList es last⟩
def fileOf (pool : Array CpInfo) (this : Nat) (attrs : Array Attribute := #[]) (ms : Array MethodInfo := #[]) (fl : Nat := 33) (sup : Nat := 0) (ifs : Array Nat := #[]) (fds : Array FieldInfo := #[]) : ClassFile where
  minorVersion := 0
  majorVersion := 65
  constantPool := pool
  accessFlags := fl
  thisClass := this
  superClass := sup
  interfaces := ifs
  fields := fds
  methods := ms
  attributes := attrs
def plain (name : String) (sup : Option ClassId) : Class where
  name := name
  kind := .ordinary
  loader := none
  accessFlags := 33
  super := sup
  interfaces := #[]
  cf := none
  fields := #[]
  methods := #[]
  instanceTypes := #[]
  staticTypes := #[]
  resolved := #[]
  callSites := []
  init := .initialized
  statics := none
  mirror := none

def pool0 : Array CpInfo := pool [(5, u "<init>"), (0, u "()V"), (1, .class_ 10), (1, u "java/lang/Object")] 113

def k0m0 : Method := { name := "<init>", desc := "()V", sig := { parameters := [], returnType := none }, accessFlags := 1, code := none }
/-- java/lang/Object -/
def k0 : Class := { plain "java/lang/Object" none with
  accessFlags := 33
  interfaces := #[]
  cf := some (fileOf pool0 8 #[] #[{ accessFlags := 1, nameIndex := 5, descriptorIndex := 6, attributes := #[] }] 33 0 #[] #[])
  fields := #[]
  methods := #[k0m0]
  instanceTypes := #[]
  staticTypes := #[]
  resolved := Array.replicate 124 none
  statics := none }

def pool1 : Array CpInfo := pool [(2, .class_ 4), (1, u "java/lang/Object"), (0, u "<init>"), (0, u "()V"), (0, .long 20), (1, .double 4621819117588971520), (1, .double 4636737291354636288), (1, .methodref 14 15), (0, .class_ 16), (0, .nameAndType 17 18), (0, u "com/example/flueline/flueline/Method19"), (0, u "isPossibleOxygen"), (0, u "(D)Z"), (0, .class_ 20), (0, u "com/example/flueline/flueline/Method19IsPossibleOxygenPinLaw"), (2, u "law"), (0, u "(IJI)Z")] 3

def k1m0 : Method := { name := "<init>", desc := "()V", sig := { parameters := [], returnType := none }, accessFlags := 1, code := none }
def k1c1 : Code := { maxStack := 4, maxLocals := 8, code := code, exceptionTable := #[], attributes := #[] }
def k1m1 : Method := { name := "law", desc := "(IJI)Z", sig := { parameters := [.int, .long, .int], returnType := some .boolean }, accessFlags := 9, code := some k1c1 }
/-- com/example/flueline/flueline/Method19IsPossibleOxygenPinLaw -/
def k1 : Class := { plain "com/example/flueline/flueline/Method19IsPossibleOxygenPinLaw" (some 0) with
  accessFlags := 49
  interfaces := #[]
  cf := some (fileOf pool1 19 #[] #[{ accessFlags := 1, nameIndex := 5, descriptorIndex := 6, attributes := #[] }, { accessFlags := 9, nameIndex := 23, descriptorIndex := 24, attributes := #[] }] 49 2 #[] #[])
  fields := #[]
  methods := #[k1m0, k1m1]
  instanceTypes := #[]
  staticTypes := #[]
  resolved := Array.replicate 28 none
  statics := none }

def pool2 : Array CpInfo := pool [(2, .class_ 4), (1, u "java/lang/Object"), (0, u "<init>"), (0, u "()V"), (3, .class_ 12), (1, u "com/example/flueline/flueline/Method19"), (32, u "Lcom/example/flueline/flueline/Rational;"), (12, u "EXACT_AMBIENT_OXYGEN_PERCENT"), (2, u "EXACT_WHOLE_PERCENT"), (0, .double 4626576044695381606), (45, u "(D)Z"), (23, u "isPossibleOxygen"), (30, u "AMBIENT_OXYGEN_PERCENT"), (0, u "D"), (1, u "WHOLE_PERCENT")] 41

def k2m0 : Method := { name := "<init>", desc := "()V", sig := { parameters := [], returnType := none }, accessFlags := 2, code := none }
def k2c1 : Code := { maxStack := 4, maxLocals := 2, code := prog_34_method_13_code, exceptionTable := #[], attributes := #[] }
def k2m1 : Method := { name := "isPossibleOxygen", desc := "(D)Z", sig := { parameters := [.double], returnType := some .boolean }, accessFlags := 8, code := some k2c1 }
/-- com/example/flueline/flueline/Method19 -/
def k2 : Class := { plain "com/example/flueline/flueline/Method19" (some 0) with
  accessFlags := 33
  interfaces := #[]
  cf := some (fileOf pool2 10 #[] #[{ accessFlags := 2, nameIndex := 5, descriptorIndex := 6, attributes := #[] }, { accessFlags := 8, nameIndex := 132, descriptorIndex := 108, attributes := #[] }] 33 2 #[] #[{ accessFlags := 25, nameIndex := 163, descriptorIndex := 164, attributes := #[] }, { accessFlags := 24, nameIndex := 58, descriptorIndex := 45, attributes := #[] }, { accessFlags := 26, nameIndex := 166, descriptorIndex := 164, attributes := #[] }, { accessFlags := 26, nameIndex := 61, descriptorIndex := 45, attributes := #[] }])
  fields := #[{ name := "AMBIENT_OXYGEN_PERCENT", type := .double, accessFlags := 25, slot := 0, constantValue := 0 }, { name := "EXACT_AMBIENT_OXYGEN_PERCENT", type := (.object "com/example/flueline/flueline/Rational"), accessFlags := 24, slot := 1, constantValue := 0 }, { name := "WHOLE_PERCENT", type := .double, accessFlags := 26, slot := 2, constantValue := 0 }, { name := "EXACT_WHOLE_PERCENT", type := (.object "com/example/flueline/flueline/Rational"), accessFlags := 26, slot := 3, constantValue := 0 }]
  methods := #[k2m0, k2m1]
  instanceTypes := #[]
  staticTypes := #[.double, (.object "com/example/flueline/flueline/Rational"), .double, (.object "com/example/flueline/flueline/Rational")]
  resolved := Array.replicate 208 none
  statics := none }

def pool3 : Array CpInfo := pool [(1, u "java/lang/Cloneable"), (0, .class_ 1), (0, u "java/lang/Object"), (0, .class_ 3)] 3

/-- java/lang/Cloneable -/
def k3 : Class := { plain "java/lang/Cloneable" (some 0) with
  accessFlags := 1537
  interfaces := #[]
  cf := some (fileOf pool3 2 #[] #[] 1537 4 #[] #[])
  fields := #[]
  methods := #[]
  instanceTypes := #[]
  staticTypes := #[]
  resolved := Array.replicate 8 none
  statics := none }

def pool4 : Array CpInfo := pool [(1, u "java/io/Serializable"), (0, .class_ 1), (0, u "java/lang/Object"), (0, .class_ 3)] 3

/-- java/io/Serializable -/
def k4 : Class := { plain "java/io/Serializable" (some 0) with
  accessFlags := 1537
  interfaces := #[]
  cf := some (fileOf pool4 2 #[] #[] 1537 4 #[] #[])
  fields := #[]
  methods := #[]
  instanceTypes := #[]
  staticTypes := #[]
  resolved := Array.replicate 8 none
  statics := none }

/-- the primitive byte -/
def k5 : Class := { plain "byte" none with kind := .primitive 'B', accessFlags := 0x411 }
/-- [B -/
def k6 : Class := { plain "[B" (some 0) with kind := .array 5 .byte, interfaces := #[3, 4], accessFlags := 1041 }

/-- the primitive int -/
def k7 : Class := { plain "int" none with kind := .primitive 'I', accessFlags := 0x411 }
/-- [I -/
def k8 : Class := { plain "[I" (some 0) with kind := .array 7 .int, interfaces := #[3, 4], accessFlags := 1041 }

def heap : Heap := #[]
def classes : Array Class := #[k0, k1, k2, k3, k4, k5, k6, k7, k8]
def interned : List (Array UInt16 × Addr) := []
def slotsUsed : Nat := 0
def theMethod : MethodId := ⟨1, 1⟩
def args0 : Array Value := #[.int 5, .long 3, .int 1]
def aboutOver (below : List Frame) : State where
  vm := { classes := classes, interned := interned.toArray }
  heap := heap
  slotsUsed := slotsUsed
  threads := #[{ frames := .invoking theMethod args0 :: below }]
def below0 : List Frame := [.native { method := ⟨0, 0⟩, args := #[] }]
def about1 : State := aboutOver below0
def p0 : Program := .bare "" "" ""
def e0 : Env := launch0.env 0 0 0
theorem w_frames : about1.frames = Frame.invoking theMethod args0 :: below0 := rfl
set_option maxRecDepth 65536 in
theorem w_args : argsFit about1.vm theMethod args0 = true := by decide +kernel
set_option maxRecDepth 65536 in
theorem w_heap : heapFits about1 = true := by decide +kernel
set_option maxRecDepth 65536 in
theorem w_runnable : about1.curStatus? = some .runnable := by decide +kernel
set_option maxRecDepth 65536 in
theorem w_alone : about1.alone = true := by decide +kernel
set_option maxRecDepth 65536 in
theorem w_named : about1.methodNamed? x = some theMethod := by decide +kernel
set_option maxRecDepth 65536 in
theorem w_hears : about1.hears theMethod below0 = true := by decide +kernel
set_option maxRecDepth 65536 in
theorem w_ripe : about1.ripe theMethod args0 below0 = true := by decide +kernel
theorem w_running : about1.status = .running := rfl
set_option maxRecDepth 65536 in
theorem w_room : about1.hasRoom e0.platform room_1 = true :=
  launch0.hasRoom_least _ room_1 (by decide +kernel) (by decide +kernel) (by decide +kernel) (by decide +kernel) (by decide +kernel) (by decide +kernel)
theorem allAtoms_all (ts : List Jvm.Cond) (a : Array Jvm.Value) (st : Jvm.State) : (allAtoms ts).before a st = ts.all (fun c => c.before a st) := by
  induction ts with
  | nil => rfl
  | cons c t ih =>
    show (Jvm.Cond.and c (allAtoms t)).before a st = _
    rw [Jvm.Cond.before_and, ih, List.all_cons]
def words1 : List Jvm.Cond := Jvm.Cond.code x code maxLocals ret :: tables_1
/-- a 'code' word, met by the world's own term for the bytes: nothing is compared byte by byte -/
theorem code_word {y : MethodName} {bytes : ByteArray} {mx : Nat} {rt : Option FieldType} {a : Array Value} {s : State} {m : MethodId} {meth : Method} {c : Code} (h1 : s.methodNamed? y = some m) (h2 : s.vm.method? m = some meth) (h3 : meth.code = some c) (h4 : c.code = bytes)
    (h5 : (c.maxLocals == mx && c.exceptionTable.isEmpty && decide (c.maxStack ≤ mostOperands) && decide (meth.sig.returnType = rt) && !meth.locks && decide (parseMethodDescriptor y.desc = some meth.sig)) = true) : (Jvm.Cond.code y bytes mx rt).before a s = true := by
  simp only [Bool.and_eq_true, beq_iff_eq, Bool.not_eq_true', decide_eq_true_eq] at h5
  obtain ⟨⟨⟨⟨⟨g1, g2⟩, g3⟩, g4⟩, g5⟩, g6⟩ := h5
  simp [Cond.before, Cond.holds, Cond.value, h1, h2, h3, h4, g1, g2, g3, g4, g5, g6]
def isCode : Jvm.Cond → Bool
  | .code _ _ _ _ => true
  | _ => false
theorem all_split {L : List Jvm.Cond} {P : Jvm.Cond → Bool} (h1 : L.all (fun c => isCode c || P c) = true) (h2 : ∀ c ∈ L.filter isCode, P c = true) : L.all P = true := by
  refine List.all_eq_true.mpr fun c hc => ?_
  have h := List.all_eq_true.mp h1 c hc
  rcases Bool.eq_false_or_eq_true (isCode c) with hi | hi
  · exact h2 c (List.mem_filter.mpr ⟨hc, hi⟩)
  · simpa [hi] using h
set_option maxRecDepth 65536 in
theorem w_c0 : (Jvm.Cond.code x code maxLocals ret).before args0 about1 = true := code_word (m := ⟨1, 1⟩) (meth := k1m1) (c := k1c1) (by decide +kernel) rfl rfl rfl (by decide +kernel)
set_option maxRecDepth 65536 in
theorem w_c1 : (Jvm.Cond.code ({ cls := "com/example/flueline/flueline/Method19", name := "isPossibleOxygen", desc := "(D)Z" } : Jvm.MethodName) prog_34_method_13_code (2 : Nat) (Option.some Jvm.ClassFile.FieldType.boolean)).before args0 about1 = true := code_word (m := ⟨2, 1⟩) (meth := k2m1) (c := k2c1) (by decide +kernel) rfl rfl rfl (by decide +kernel)
def codes1 : List Jvm.Cond := [Jvm.Cond.code x code maxLocals ret, Jvm.Cond.code ({ cls := "com/example/flueline/flueline/Method19", name := "isPossibleOxygen", desc := "(D)Z" } : Jvm.MethodName) prog_34_method_13_code (2 : Nat) (Option.some Jvm.ClassFile.FieldType.boolean)]
set_option maxRecDepth 65536 in
theorem codes_eq : words1.filter isCode = codes1 := rfl
theorem w_codes : ∀ c ∈ words1.filter isCode, c.before args0 about1 = true := by
  rw [codes_eq]
  intro c hc
  simp only [codes1, List.mem_cons, List.not_mem_nil, or_false] at hc
  rcases hc with rfl | rfl
  · exact w_c0
  · exact w_c1
set_option maxRecDepth 65536 in
theorem w_t1 : words1.all (fun c => isCode c || c.before args0 about1) = true := by decide +kernel
theorem w_tables : (allAtoms (Jvm.Cond.code x code maxLocals ret :: tables_1)).before args0 about1 = true := by
  rw [allAtoms_all]
  show words1.all (fun c => c.before args0 about1) = true
  refine all_split ?_ w_codes
  rw [w_t1]
set_option maxRecDepth 65536 in
theorem w_case : (Jvm.Cond.and given_1 narrow_1).before args0 about1 = true := by decide +kernel
theorem w_applies : (headSpec (Jvm.Cond.code x code maxLocals ret :: tables_1) room_1).applies x e0.platform about1 = true :=
  (Spec.applies_iff w_frames).mpr ⟨w_running, w_runnable, w_alone, w_named, w_hears, w_ripe, w_room, w_tables⟩
theorem atStart : AtStart classFile x code maxLocals ret World_1 tables_1 room_1 Calls_1 rest_1 Pre_1 launch0 p0 e0 about1 theMethod args0 below0 :=
  ⟨lists_1, trivial, launch0.admits_env _ _ _, launch0.least_env, fairChoices_fair.cas, fairChoices_fair.clock, w_frames, w_args, w_heap, w_applies, trivial, trivial, w_case⟩
end start1
theorem witness_1 : WitnessClaimed_1 := ⟨start1.p0, start1.e0, start1.about1, start1.theMethod, start1.args0, start1.below0, start1.atStart⟩
end Jvm.Pilot.@@N@@
