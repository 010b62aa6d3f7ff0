import JvmDerived
import JvmDerived.Pilot.@@N@@Statement
import JvmDerived.Pilot.@@N@@Code
set_option linter.unusedVariables false
set_option linter.unusedSimpArgs false
namespace Jvm.Pilot.@@N@@.Dyad
open Jvm Jvm.FP Jvm.FP.Core
/-- the exponent moved up by k -/
def sh (k : Int) : Datum → Datum
  | .nan => .nan
  | .inf s => .inf s
  | .fin s c q => .fin s c (q + k)
theorem sh_prod (k l : Int) (x y : Datum) : exactProduct (sh k x) (sh l y) = sh (k + l) (exactProduct x y) := by
  cases x <;> cases y <;> simp only [sh, exactProduct]
  · split <;> rfl
  · split <;> rfl
  · rw [show ∀ q r : Int, q + k + (r + l) = q + r + (k + l) from fun q r => by omega]
theorem inUnits_sh (c : Nat) (q e k : Int) : inUnits c (q + k) (e + k) = inUnits c q e := by
  unfold inUnits; rw [show q + k - (e + k) = q - e by omega]
theorem min_sh (q r k : Int) : min (q + k) (r + k) = min q r + k := by omega
theorem sumUnits_sh (s : Bool) (c : Nat) (q : Int) (t : Bool) (d : Nat) (r e k : Int) : sumUnits s c (q + k) t d (r + k) (e + k) = sumUnits s c q t d r e := by
  unfold sumUnits; rw [inUnits_sh, inUnits_sh]
theorem sh_sum (k : Int) (x y : Datum) : exactSum (sh k x) (sh k y) = sh k (exactSum x y) := by
  cases x <;> cases y <;> simp only [sh, exactSum]
  · split <;> rfl
  · rw [min_sh, sumUnits_sh]
theorem sh_neg (k : Int) (x : Datum) : negate (sh k x) = sh k (negate x) := by
  cases x <;> rfl
theorem order_sh (k : Int) (x y : Datum) : order (sh k x) (sh k y) = order x y := by
  cases x <;> cases y <;> simp only [sh, order]
  rw [min_sh, inUnits_sh, inUnits_sh]
theorem sh_zero (x : Datum) : sh 0 x = x := by
  cases x <;> simp [sh]
/-- x is the number n / 2^k -/
def Dy (n k : Int) (x : UInt64) : Prop := Whole n (sh k (val64 x))
theorem Dy.fin {n k : Int} {x : UInt64} (h : Dy n k x) : ∃ s c q, val64 x = .fin s c q ∧ Whole n (.fin s c (q + k)) := by
  unfold Dy at h
  cases hx : val64 x with
  | nan => rw [hx] at h; exact h.elim
  | inf s => rw [hx] at h; exact h.elim
  | fin s c q => rw [hx] at h; exact ⟨s, c, q, rfl, h⟩
theorem Dy.ne_nan {n k : Int} {x : UInt64} (h : Dy n k x) : val64 x ≠ .nan := by
  obtain ⟨s, c, q, e, -⟩ := h.fin; rw [e]; exact Datum.noConfusion
theorem Dy.no {n k : Int} {x : UInt64} (h : Dy n k x) : Jvm.Free.Fl.NoNaN64 x := Jvm.Free.Fl.val64_no.mpr h.ne_nan
theorem whole_scale {n : Int} {s : Bool} {c : Nat} {a : Int} (j : Nat) : Whole n (.fin s c a) ↔ Whole (n * ((2 ^ j : Nat) : Int)) (.fin s c (a + j)) := by
  show signed s (c * 2 ^ a.toNat) = n * ((2 ^ (-a).toNat : Nat) : Int) ↔ signed s (c * 2 ^ (a + j).toNat) = n * ((2 ^ j : Nat) : Int) * ((2 ^ (-(a + j)).toNat : Nat) : Int)
  have e : (a + j).toNat + (-a).toNat = a.toNat + (j + (-(a + j)).toNat) := by omega
  have p : ((2 ^ (-a).toNat : Nat) : Int) ≠ 0 := by have := Nat.two_pow_pos (-a).toNat; omega
  have p2 : ((2 ^ j : Nat) : Int) ≠ 0 := by have := Nat.two_pow_pos j; omega
  have p3 : ((2 ^ (-(a + j)).toNat : Nat) : Int) ≠ 0 := by have := Nat.two_pow_pos (-(a + j)).toNat; omega
  rw [signed_mul, signed_mul]
  have e2 : ((2 ^ (a + j).toNat : Nat) : Int) * ((2 ^ (-a).toNat : Nat) : Int) = ((2 ^ a.toNat : Nat) : Int) * (((2 ^ j : Nat) : Int) * ((2 ^ (-(a + j)).toNat : Nat) : Int)) := by
    rw [← Int.natCast_mul, ← Int.natCast_mul, ← Int.natCast_mul, ← Nat.pow_add, ← Nat.pow_add, ← Nat.pow_add, e]
  generalize signed s c = v
  generalize ((2 ^ (a + j).toNat : Nat) : Int) = P at e2 ⊢
  generalize ((2 ^ (-a).toNat : Nat) : Int) = M at p e2 ⊢
  generalize ((2 ^ a.toNat : Nat) : Int) = A at e2 ⊢
  generalize ((2 ^ j : Nat) : Int) = J at p2 e2 ⊢
  generalize ((2 ^ (-(a + j)).toNat : Nat) : Int) = N at p3 e2 ⊢
  have q1 : v * P * M = v * A * (J * N) := by
    calc v * P * M = v * (P * M) := Int.mul_assoc _ _ _
      _ = v * (A * (J * N)) := by rw [e2]
      _ = v * A * (J * N) := (Int.mul_assoc _ _ _).symm
  have q2 : n * J * N * M = n * M * (J * N) := by simp only [Int.mul_assoc, Int.mul_comm, Int.mul_left_comm]
  constructor
  · intro h
    apply Int.eq_of_mul_eq_mul_right p
    rw [q1, h, q2]
  · intro h
    apply Int.eq_of_mul_eq_mul_right (Int.mul_ne_zero p2 p3)
    rw [← q1, h, q2]
theorem Dy.scale {n k : Int} {x : UInt64} (j : Nat) : Dy n k x ↔ Dy (n * ((2 ^ j : Nat) : Int)) (k + j) x := by
  unfold Dy
  cases val64 x with
  | nan => exact Iff.rfl
  | inf s => exact Iff.rfl
  | fin s c q =>
    show Whole _ (.fin s c (q + k)) ↔ Whole _ (.fin s c (q + (k + j)))
    rw [show q + (k + (j : Int)) = q + k + j by omega]
    exact whole_scale j
theorem Dy.cast {n m k : Int} {x : UInt64} (h : Dy n k x) (e : n = m) : Dy m k x := e ▸ h
theorem Dy.up {n m k l : Int} {x : UInt64} (h : Dy n k x) (j : Nat) (hl : k + j = l) (e : n * ((2 ^ j : Nat) : Int) = m) : Dy m l x := by subst hl e; exact (Dy.scale j).mp h
theorem Dy.down {n m k l : Int} {x : UInt64} (h : Dy n k x) (j : Nat) (hl : l + j = k) (e : m * ((2 ^ j : Nat) : Int) = n) : Dy m l x := by subst hl e; exact (Dy.scale j).mpr h
theorem Dy.i2d (a : Int32) : Dy a.toInt 0 (FP.i2d a) := by
  unfold Dy; rw [sh_zero]; exact i2d_int a
theorem Dy.l2d {a : Int64} (h : a.toInt.natAbs ≤ 2 ^ 53) : Dy a.toInt 0 (FP.l2d a) := by
  unfold Dy; rw [sh_zero]; exact l2d_int h
theorem Dy.lit {n : Int64} {x : UInt64} {m : Int} (h : x = FP.l2d n) (e : n.toInt = m) (b : m.natAbs ≤ 2 ^ 53) : Dy m 0 x := by
  subst h e; exact Dy.l2d b
theorem Dy.cmp {n m k : Int} {x y : UInt64} (hx : Dy n k x) (hy : Dy m k y) : FP.dcmp x y = some (compare n m) := by
  show order (val64 x) (val64 y) = _
  rw [← order_sh k]; exact order_whole hx hy
theorem compare_lt {n m : Int} (h : n < m) : compare n m = .lt := (compare_lt_iff n m).mpr h
theorem compare_eq {n m : Int} (h : n = m) : compare n m = .eq := (compare_eq_iff n m).mpr h
theorem compare_gt {n m : Int} (h : m < n) : compare n m = .gt := by
  rw [compare_swap_int, compare_lt h]; rfl
theorem Dy.lt {n m k : Int} {x y : UInt64} (hx : Dy n k x) (hy : Dy m k y) (h : n < m) (o : Jvm.ClassFile.CmpOp) : Op.cmpValue (FP.dcmp x y) o = -1 := by rw [hx.cmp hy, compare_lt h]; rfl
theorem Dy.eq {n m k : Int} {x y : UInt64} (hx : Dy n k x) (hy : Dy m k y) (h : n = m) (o : Jvm.ClassFile.CmpOp) : Op.cmpValue (FP.dcmp x y) o = 0 := by rw [hx.cmp hy, compare_eq h]; rfl
theorem Dy.gt {n m k : Int} {x y : UInt64} (hx : Dy n k x) (hy : Dy m k y) (h : m < n) (o : Jvm.ClassFile.CmpOp) : Op.cmpValue (FP.dcmp x y) o = 1 := by rw [hx.cmp hy, compare_gt h]; rfl
theorem signed_natAbs {n : Int} {s : Bool} (h : n ≠ 0 → s = decide (n < 0)) : signed s n.natAbs = n := by
  by_cases h0 : n = 0
  · subst h0; exact signed_zero s
  · rw [h h0]; unfold signed
    by_cases q : n < 0
    · simp [q]; omega
    · simp [q]; omega
/-- a number of 53 digits is held exactly -/
theorem round_dy {n k : Int} {d : Datum} (h : Whole n (sh k d)) (hn : n.natAbs < 2 ^ 53) (hk : -900 ≤ k ∧ k ≤ 1000) : Whole n (sh k (round b64 d)) := by
  cases d with
  | nan => exact h.elim
  | inf s => exact h.elim
  | fin s c q =>
    have h1 : Whole n (.fin s c (q + k)) := h
    have e : round b64 (.fin s c q) = round b64 (.fin s n.natAbs (-k)) := by
      show roundRatio b64 s c 1 q = roundRatio b64 s n.natAbs 1 (-k)
      refine roundRatio_congr (by decide) (by decide) ?_
      have := whole_natAbs h1
      rw [Nat.mul_one, Nat.mul_one, show q - -k = q + k by omega, show -k - q = -(q + k) by omega]
      exact this
    have hq : b64.qmin = -1074 := qmin_b64
    have hp : b64.p = 53 := rfl
    obtain ⟨c', q', e1, e2⟩ := round_exact good_b64 s (c := n.natAbs) (q := -k) (by rw [hp]; exact hn) (by rw [hq]; omega) (by rw [show b64.qmax = 971 by decide]; omega)
    rw [e, e1]
    have hf := round_fits good_b64 (.fin s n.natAbs (-k))
    rw [e1] at hf
    have hq' : -1074 ≤ q' := hq ▸ hf.2.1
    unfold inUnits at e2
    rw [hq] at e2
    show signed s (c' * 2 ^ (q' + k).toNat) = n * ((2 ^ (-(q' + k)).toNat : Nat) : Int)
    have key : c' * 2 ^ (q' + k).toNat = n.natAbs * 2 ^ (-(q' + k)).toNat := by
      have e3 : (q' + k).toNat + (-k - -1074).toNat = (q' - -1074).toNat + (-(q' + k)).toNat := by omega
      apply Nat.eq_of_mul_eq_mul_right (Nat.two_pow_pos (-k - -1074).toNat)
      rw [Nat.mul_assoc, ← Nat.pow_add, e3, Nat.pow_add, ← Nat.mul_assoc, e2]
      simp only [Nat.mul_assoc, Nat.mul_comm, Nat.mul_left_comm]
    rw [key, signed_mul, signed_natAbs (fun h0 => whole_sign h1 h0)]
theorem Dy.mul {n m k l : Int} {x y : UInt64} (hx : Dy n k x) (hy : Dy m l y) (hb : (n * m).natAbs < 2 ^ 53) (hk : -900 ≤ k + l ∧ k + l ≤ 1000) : Dy (n * m) (k + l) (FP.dmul x y) := by
  unfold Dy
  rw [show val64 (FP.dmul x y) = _ from val64_dmul x y]
  refine round_dy ?_ hb hk
  rw [← sh_prod]
  exact whole_product hx hy
theorem Dy.add {n m k : Int} {x y : UInt64} (hx : Dy n k x) (hy : Dy m k y) (hb : (n + m).natAbs < 2 ^ 53) (hk : -900 ≤ k ∧ k ≤ 1000) : Dy (n + m) k (FP.dadd x y) := by
  unfold Dy
  rw [show val64 (FP.dadd x y) = _ from val64_dadd x y]
  refine round_dy ?_ hb hk
  rw [← sh_sum]
  exact whole_sum hx hy
theorem Dy.sub {n m k : Int} {x y : UInt64} (hx : Dy n k x) (hy : Dy m k y) (hb : (n - m).natAbs < 2 ^ 53) (hk : -900 ≤ k ∧ k ≤ 1000) : Dy (n - m) k (FP.dsub x y) := by
  unfold Dy
  rw [show val64 (FP.dsub x y) = _ from val64_dsub x y]
  refine round_dy ?_ hb hk
  rw [← sh_sum, ← sh_neg, Int.sub_eq_add_neg]
  exact whole_sum hx (whole_negate hy)
/-- the quotient's rounding, by the values alone -/
theorem Dy.quot {n m k l : Int} {x y : UInt64} (hx : Dy n k x) (hy : Dy m l y) (hm : m ≠ 0) : ∃ s, val64 (FP.ddiv x y) = roundRatio b64 s n.natAbs m.natAbs (l - k) ∧ (n ≠ 0 → s = (decide (n < 0) != decide (m < 0))) := by
  obtain ⟨s, c, q, ex, wx⟩ := hx.fin
  obtain ⟨t, d, r, ey, wy⟩ := hy.fin
  have hd : d ≠ 0 := fun z => hm ((whole_zero wy).mp z)
  refine ⟨s != t, ?_, fun h0 => by rw [whole_sign wx h0, whole_sign wy hm]⟩
  rw [show val64 (FP.ddiv x y) = _ from val64_ddiv x y, ex, ey]
  simp only [quotient, if_neg hd]
  refine roundRatio_congr (Nat.pos_of_ne_zero hd) (by omega) ?_
  have e1 := whole_natAbs wx
  have e2 := whole_natAbs wy
  have e3 : (q - r - (l - k)).toNat + ((-(q + k)).toNat + (r + l).toNat) = (l - k - (q - r)).toNat + ((q + k).toNat + (-(r + l)).toNat) := by omega
  apply Nat.eq_of_mul_eq_mul_right (Nat.two_pow_pos ((-(q + k)).toNat + (r + l).toNat))
  rw [Nat.mul_assoc, ← Nat.pow_add, e3, Nat.pow_add, Nat.pow_add, Nat.pow_add]
  generalize 2 ^ (l - k - (q - r)).toNat = P
  generalize 2 ^ (q + k).toNat = A at *
  generalize 2 ^ (-(q + k)).toNat = A' at *
  generalize 2 ^ (r + l).toNat = B at *
  generalize 2 ^ (-(r + l)).toNat = B' at *
  calc c * m.natAbs * (P * (A * B')) = (c * A) * (m.natAbs * B') * P := by simp only [Nat.mul_assoc, Nat.mul_comm, Nat.mul_left_comm]
    _ = (n.natAbs * A') * (d * B) * P := by rw [e1, e2]
    _ = n.natAbs * d * P * (A' * B) := by simp only [Nat.mul_assoc, Nat.mul_comm, Nat.mul_left_comm]
theorem sgn_of_quot {n m j : Int} {a b c : Nat} (ha : 0 < a) (hb : 0 < b) (hm : m ≠ 0) (h : n * (a : Int) = j * m * (b : Int)) (hj : j ≠ 0) : (n ≠ 0) ∧ decide (j < 0) = (decide (n < 0) != decide (m < 0)) := by
  have hn : n ≠ 0 := by
    intro z; rw [z, Int.zero_mul] at h
    have := Int.mul_eq_zero.mp h.symm
    rcases this with q | q
    · rcases Int.mul_eq_zero.mp q with q | q
      · exact hj q
      · exact hm q
    · omega
  refine ⟨hn, ?_⟩
  have ha' : (0 : Int) < a := by omega
  have hb' : (0 : Int) < b := by omega
  rcases Int.lt_or_gt_of_ne hj with q | q <;> rcases Int.lt_or_gt_of_ne hm with r | r <;> rcases Int.lt_or_gt_of_ne hn with t | t
  all_goals first
    | (simp [q, r, t]; done)
    | (simp [q, r, t, Int.not_lt.mpr (Int.le_of_lt q), Int.not_lt.mpr (Int.le_of_lt r), Int.not_lt.mpr (Int.le_of_lt t)]; done)
    | (simp [q, r, t, Int.not_lt.mpr (Int.le_of_lt q), Int.not_lt.mpr (Int.le_of_lt r)]; done)
    | (simp [q, r, t, Int.not_lt.mpr (Int.le_of_lt q), Int.not_lt.mpr (Int.le_of_lt t)]; done)
    | (simp [q, r, t, Int.not_lt.mpr (Int.le_of_lt r), Int.not_lt.mpr (Int.le_of_lt t)]; done)
    | (simp [q, r, t, Int.not_lt.mpr (Int.le_of_lt q)]; done)
    | (simp [q, r, t, Int.not_lt.mpr (Int.le_of_lt r)]; done)
    | (simp [q, r, t, Int.not_lt.mpr (Int.le_of_lt t)]; done)
    | (exfalso
       have s1 : n * (a : Int) < 0 ∨ 0 < n * (a : Int) := by
         rcases Int.lt_or_gt_of_ne hn with t | t
         · exact Or.inl (Int.mul_neg_of_neg_of_pos t ha')
         · exact Or.inr (Int.mul_pos t ha')
       first
       | (have u := Int.mul_neg_of_neg_of_pos (Int.mul_neg_of_neg_of_pos q r) hb'; have v := Int.mul_pos t ha'; omega)
       | (have u := Int.mul_neg_of_neg_of_pos (Int.mul_neg_of_pos_of_neg q r) hb'; have v := Int.mul_pos t ha'; omega)
       | (have u := Int.mul_pos (Int.mul_pos q r) hb'; have v := Int.mul_neg_of_neg_of_pos t ha'; omega)
       | (have u := Int.mul_pos (Int.mul_pos_of_neg_of_neg q r) hb'; have v := Int.mul_neg_of_neg_of_pos t ha'; omega))
/-- an exact quotient: x / y = j / 2^i -/
theorem Dy.div {n m j k l i : Int} {x y : UInt64} (u v : Nat) (hx : Dy n k x) (hy : Dy m l y) (hm : m ≠ 0) (huv : (u : Int) - v = l + i - k) (hv : n * ((2 ^ u : Nat) : Int) = j * m * ((2 ^ v : Nat) : Int)) (hj : j.natAbs < 2 ^ 53) (hi : -900 ≤ i ∧ i ≤ 1000) : Dy j i (FP.ddiv x y) := by
  obtain ⟨s, e, hs⟩ := hx.quot hy hm
  unfold Dy
  rw [e]
  have hva : n.natAbs * 2 ^ u = j.natAbs * m.natAbs * 2 ^ v := by
    have := congrArg Int.natAbs hv
    rw [Int.natAbs_mul, Int.natAbs_mul, Int.natAbs_mul, Int.natAbs_natCast, Int.natAbs_natCast] at this
    exact this
  have e2 : roundRatio b64 s n.natAbs m.natAbs (l - k) = round b64 (.fin s j.natAbs (-i)) := by
    show _ = roundRatio b64 s j.natAbs 1 (-i)
    refine roundRatio_congr (by omega) (by decide) ?_
    rw [Nat.mul_one]
    have e3 : (l - k - -i).toNat + v = (-i - (l - k)).toNat + u := by omega
    apply Nat.eq_of_mul_eq_mul_right (Nat.two_pow_pos v)
    rw [Nat.mul_assoc, ← Nat.pow_add, e3, Nat.pow_add]
    generalize 2 ^ (-i - (l - k)).toNat = W
    calc n.natAbs * (W * 2 ^ u) = (n.natAbs * 2 ^ u) * W := by simp only [Nat.mul_assoc, Nat.mul_comm, Nat.mul_left_comm]
      _ = j.natAbs * m.natAbs * 2 ^ v * W := by rw [hva]
      _ = j.natAbs * m.natAbs * W * 2 ^ v := by simp only [Nat.mul_assoc, Nat.mul_comm, Nat.mul_left_comm]
  rw [e2]
  refine round_dy ?_ hj hi
  show signed s (j.natAbs * 2 ^ (-i + i).toNat) = j * ((2 ^ (-(-i + i)).toNat : Nat) : Int)
  rw [show (-i + i) = 0 by omega]
  simp only [Int.toNat_zero, Nat.pow_zero, Nat.mul_one, Int.neg_zero, Int.natCast_one, Int.mul_one]
  refine signed_natAbs fun h0 => ?_
  obtain ⟨hn, hsg⟩ := sgn_of_quot (c := 0) (Nat.two_pow_pos u) (Nat.two_pow_pos v) hm hv h0
  rw [hs hn, hsg]
end Jvm.Pilot.@@N@@.Dyad
namespace Jvm.Pilot.@@N@@.Dyad
open Jvm Jvm.FP Jvm.FP.Core
theorem Dy.of_fin {x : UInt64} {s : Bool} {c : Nat} {q : Int} (h : val64 x = .fin s c q) : Dy (signed s c) (-q) x := by
  unfold Dy; rw [h]
  show signed s (c * 2 ^ (q + -q).toNat) = signed s c * ((2 ^ (-(q + -q)).toNat : Nat) : Int)
  rw [show q + -q = 0 by omega]; simp
theorem Dy.of_zero {x : UInt64} {s : Bool} {q : Int} (h : val64 x = .fin s 0 q) (k : Int) : Dy 0 k x := by
  unfold Dy; rw [h]
  show signed s (0 * 2 ^ (q + k).toNat) = 0 * ((2 ^ (-(q + k)).toNat : Nat) : Int)
  rw [Nat.zero_mul, signed_zero, Int.zero_mul]
theorem l2d_form (v : Int64) (h : v.toInt ≠ 0) : ∃ s c q, val64 (FP.l2d v) = .fin s c q ∧ c ≠ 0 ∧ c < 2 ^ 53 ∧ -60 ≤ q ∧ q ≤ 20 := by
  have hm := l2d_mag v
  have hb := (l2d_big h).1
  have hE : fieldE b64 (FP.l2d v).toNat = ((FP.l2d v).toNat % 2 ^ 63) / 2 ^ 52 := by rw [fieldE_mag, mag_toNat64, tails_b64]
  have hE1 : 1023 ≤ fieldE b64 (FP.l2d v).toNat := by rw [hE]; exact (Nat.le_div_iff_mul_le (by decide)).mpr hb
  have hE2 : fieldE b64 (FP.l2d v).toNat < 1088 := by rw [hE]; exact (Nat.div_lt_iff_lt_mul (by decide)).mpr hm
  have hx : b64.exps - 1 = 2047 := exps_b64
  have ht : fieldT b64 (FP.l2d v).toNat < b64.tails := fieldT_lt _ _
  rw [tails_b64] at ht
  refine ⟨fieldS b64 (FP.l2d v).toNat, b64.tails + fieldT b64 (FP.l2d v).toNat, b64.qmin + ((fieldE b64 (FP.l2d v).toNat : Int) - 1), ?_, ?_, ?_, ?_, ?_⟩
  · show decode b64 (FP.l2d v).toNat = _
    unfold decode
    rw [if_neg (by omega), if_neg (by omega)]
  · rw [tails_b64]; omega
  · rw [tails_b64]; omega
  · rw [qmin_b64]; omega
  · rw [qmin_b64]; omega
/-- equal quotients of equal values -/
theorem quot_eq {n m k l n' m' k' l' : Int} {x y x' y' : UInt64} (hx : Dy n k x) (hy : Dy m l y) (hx' : Dy n' k' x') (hy' : Dy m' l' y') (hm : m ≠ 0) (en : n' = n) (em : m' = m) (ek : l' - k' = l - k) (o : Jvm.ClassFile.CmpOp) : Op.cmpValue (FP.dcmp (FP.ddiv x y) (FP.ddiv x' y')) o = 0 := by
  subst en em
  obtain ⟨s, e, hs⟩ := hx.quot hy hm
  obtain ⟨s', e', hs'⟩ := hx'.quot hy' hm
  by_cases h0 : n' = 0
  · subst h0
    have z : ∀ (s : Bool) (B : Nat) (q : Int), roundRatio b64 s (0 : Int).natAbs B q = .fin s 0 b64.qmin := fun s B q => by unfold roundRatio; exact if_pos rfl
    rw [z] at e e'
    exact (Dy.of_zero e 0).eq (Dy.of_zero e' 0) rfl o
  · have : val64 (FP.ddiv x y) = val64 (FP.ddiv x' y') := by rw [e, e', hs h0, hs' h0, ek]
    have e2 : FP.dcmp (FP.ddiv x y) (FP.ddiv x' y') = some .eq := by
      show order (val64 _) (val64 _) = _
      rw [← this]; exact order_self (by rw [e]; exact roundRatio_ne_nan _ _ _ _ _)
    rw [e2]; rfl
theorem quot_no {n m k l : Int} {x y : UInt64} (hx : Dy n k x) (hy : Dy m l y) (hm : m ≠ 0) : Jvm.Free.Fl.NoNaN64 (FP.ddiv x y) := by
  obtain ⟨s, e, -⟩ := hx.quot hy hm
  exact Jvm.Free.Fl.val64_no.mpr (by rw [e]; exact roundRatio_ne_nan _ _ _ _ _)
theorem dy0 : Dy 0 0 FP.dconst0 := Dy.lit (n := 0) (by decide +kernel) rfl (by decide)
theorem dy1 : Dy 1 0 FP.dconst1 := Dy.lit (n := 1) (by decide +kernel) rfl (by decide)
theorem dy4 : Dy 4 0 (4616189618054758400 : UInt64) := Dy.lit (n := 4) (by decide +kernel) rfl (by decide)
theorem dy8 : Dy 8 0 (4620693217682128896 : UInt64) := Dy.lit (n := 8) (by decide +kernel) rfl (by decide)
theorem dy1024 : Dy 1024 0 (4652218415073722368 : UInt64) := Dy.lit (n := 1024) (by decide +kernel) rfl (by decide)
/-- a whole number over a power of two -/
theorem div8 {x : UInt64} {n : Int} (h : Dy n 0 x) (hn : n.natAbs < 2 ^ 53) : Dy n 3 (FP.ddiv x (4620693217682128896 : UInt64)) := h.div 3 0 dy8 (by decide) (by decide) (by omega) hn (by decide)
theorem div4 {x : UInt64} {n : Int} (h : Dy n 0 x) (hn : n.natAbs < 2 ^ 53) : Dy n 2 (FP.ddiv x (4616189618054758400 : UInt64)) := h.div 2 0 dy4 (by decide) (by decide) (by omega) hn (by decide)
theorem div1024 {x : UInt64} {n : Int} (h : Dy n 0 x) (hn : n.natAbs < 2 ^ 53) : Dy n 10 (FP.ddiv x (4652218415073722368 : UInt64)) := h.div 10 0 dy1024 (by decide) (by decide) (by omega) hn (by decide)
theorem i32_53 (a : Int32) : a.toInt.natAbs < 2 ^ 53 := by have := RoadKit.rng32 a; omega
end Jvm.Pilot.@@N@@.Dyad
namespace Jvm.Pilot.@@N@@.Dyad
open Jvm Jvm.FP Jvm.FP.Core
/-- (long) x of a number that is not below nought -/
theorem Dy.d2l {n : Int} {k : Nat} {x : UInt64} (h : Dy n k x) (hn : 0 ≤ n) (P : Int) (hP : P = ((2 ^ k : Nat) : Int)) (hb : n / P < 9223372036854775808) : (FP.d2l x).toInt = n / P := by
  subst hP
  obtain ⟨s, c, q, e, w⟩ := h.fin
  have hw := whole_natAbs w
  have e1 : c * 2 ^ q.toNat / 2 ^ (-q).toNat = n.natAbs / 2 ^ k := by
    have e3 : q.toNat + k + (-(q + k)).toNat = (-q).toNat + (q + k).toNat := by omega
    have e4 : c * 2 ^ q.toNat * 2 ^ k = n.natAbs * 2 ^ (-q).toNat := by
      apply Nat.eq_of_mul_eq_mul_right (Nat.two_pow_pos (q + k).toNat)
      calc c * 2 ^ q.toNat * 2 ^ k * 2 ^ (q + k).toNat = (c * 2 ^ (q + k).toNat) * (2 ^ q.toNat * 2 ^ k) := by simp only [Nat.mul_assoc, Nat.mul_comm, Nat.mul_left_comm]
        _ = (n.natAbs * 2 ^ (-(q + k)).toNat) * (2 ^ q.toNat * 2 ^ k) := by rw [hw]
        _ = n.natAbs * (2 ^ (q.toNat + k + (-(q + k)).toNat)) := by rw [Nat.pow_add, Nat.pow_add]; simp only [Nat.mul_assoc, Nat.mul_comm, Nat.mul_left_comm]
        _ = n.natAbs * (2 ^ ((-q).toNat + (q + k).toNat)) := by rw [e3]
        _ = n.natAbs * 2 ^ (-q).toNat * 2 ^ (q + k).toNat := by rw [Nat.pow_add, Nat.mul_assoc]
    have p1 := Nat.two_pow_pos k
    have p2 := Nat.two_pow_pos (-q).toNat
    calc c * 2 ^ q.toNat / 2 ^ (-q).toNat = c * 2 ^ q.toNat * 2 ^ k / (2 ^ (-q).toNat * 2 ^ k) := (Nat.mul_div_mul_right _ _ p1).symm
      _ = n.natAbs * 2 ^ (-q).toNat / (2 ^ k * 2 ^ (-q).toNat) := by rw [e4, Nat.mul_comm (2 ^ (-q).toNat)]
      _ = n.natAbs / 2 ^ k := Nat.mul_div_mul_right _ _ p2
  have e2 : truncate s c q = n / ((2 ^ k : Nat) : Int) := by
    unfold truncate
    rw [e1]
    have e5 : ((n.natAbs / 2 ^ k : Nat) : Int) = n / ((2 ^ k : Nat) : Int) := by rw [Int.natCast_ediv, Int.natAbs_of_nonneg hn]
    by_cases h0 : n = 0
    · subst h0; rw [show (0 : Int).natAbs = 0 from rfl, Nat.zero_div, signed_zero, Int.zero_ediv]
    · rw [whole_sign w h0, decide_eq_false (by omega : ¬ n < 0)]; exact e5
  have h0 : 0 ≤ n / ((2 ^ k : Nat) : Int) := Int.ediv_nonneg hn (Int.natCast_nonneg _)
  show (toL (val64 x)).toInt = _
  rw [e]
  show (Int64.ofInt (max (-2 ^ 63) (min (2 ^ 63 - 1) (truncate s c q)))).toInt = _
  rw [e2]
  generalize n / ((2 ^ k : Nat) : Int) = D at *
  rw [show max (-2 ^ 63) (min (2 ^ 63 - 1) D) = D by omega]
  exact Int64.toInt_ofInt_of_le (by omega) (by omega)
end Jvm.Pilot.@@N@@.Dyad
namespace Jvm.Pilot.@@N@@
open Jvm Jvm.ClassFile Sem Op Lib Jvm.Free Jvm.Stand Jvm.LawKit Jvm.RoadKit Bundle Jvm.Pilot.@@N@@.Jvm.D
def own_K (p : Program) (e : Env) (below : List Frame) (A B : State) : Prop := ∀ t, Steps p.tables e below A t → Steps p.tables e below B t
theorem own_ifT_eq {x : Int32} (h : x = 0) : ifCond.holds .eq x = true := by simp [ifCond.holds, h]
theorem own_ifF_eq {x : Int32} (h : ¬ x = 0) : ifCond.holds .eq x = false := by simp [ifCond.holds, h]
theorem own_ifT_ne {x : Int32} (h : ¬ x = 0) : ifCond.holds .ne x = true := by simp [ifCond.holds, h]
theorem own_ifF_ne {x : Int32} (h : x = 0) : ifCond.holds .ne x = false := by simp [ifCond.holds, h]
theorem own_ifT_lt {x : Int32} (h : x < 0) : ifCond.holds .lt x = true := by simp [ifCond.holds, h]
theorem own_ifF_lt {x : Int32} (h : ¬ x < 0) : ifCond.holds .lt x = false := by simp [ifCond.holds, h]
theorem own_ifT_ge {x : Int32} (h : ¬ x < 0) : ifCond.holds .ge x = true := by simp [ifCond.holds, Int32.not_lt.mp h]
theorem own_ifF_ge {x : Int32} (h : x < 0) : ifCond.holds .ge x = false := by simp [ifCond.holds, Int32.not_le.mpr h]
theorem own_ifT_gt {x : Int32} (h : 0 < x) : ifCond.holds .gt x = true := by simp [ifCond.holds, h]
theorem own_ifF_gt {x : Int32} (h : ¬ 0 < x) : ifCond.holds .gt x = false := by simp [ifCond.holds, h]
theorem own_ifT_le {x : Int32} (h : ¬ 0 < x) : ifCond.holds .le x = true := by simp [ifCond.holds, Int32.not_lt.mp h]
theorem own_ifF_le {x : Int32} (h : 0 < x) : ifCond.holds .le x = false := by simp [ifCond.holds, Int32.not_le.mpr h]
theorem own_icT_eq {x y : Int32} (h : x = y) : if_icmp.holds .eq x y = true := by simp [if_icmp.holds, h]
theorem own_icF_eq {x y : Int32} (h : ¬ x = y) : if_icmp.holds .eq x y = false := by simp [if_icmp.holds, h]
theorem own_icT_ne {x y : Int32} (h : ¬ x = y) : if_icmp.holds .ne x y = true := by simp [if_icmp.holds, h]
theorem own_icF_ne {x y : Int32} (h : x = y) : if_icmp.holds .ne x y = false := by simp [if_icmp.holds, h]
theorem own_icT_lt {x y : Int32} (h : x < y) : if_icmp.holds .lt x y = true := by simp [if_icmp.holds, h]
theorem own_icF_lt {x y : Int32} (h : ¬ x < y) : if_icmp.holds .lt x y = false := by simp [if_icmp.holds, h]
theorem own_icT_ge {x y : Int32} (h : ¬ x < y) : if_icmp.holds .ge x y = true := by simp [if_icmp.holds, Int32.not_lt.mp h]
theorem own_icF_ge {x y : Int32} (h : x < y) : if_icmp.holds .ge x y = false := by simp [if_icmp.holds, Int32.not_le.mpr h]
theorem own_icT_gt {x y : Int32} (h : y < x) : if_icmp.holds .gt x y = true := by simp [if_icmp.holds, h]
theorem own_icF_gt {x y : Int32} (h : ¬ y < x) : if_icmp.holds .gt x y = false := by simp [if_icmp.holds, h]
theorem own_icT_le {x y : Int32} (h : ¬ y < x) : if_icmp.holds .le x y = true := by simp [if_icmp.holds, Int32.not_lt.mp h]
theorem own_icF_le {x y : Int32} (h : y < x) : if_icmp.holds .le x y = false := by simp [if_icmp.holds, Int32.not_le.mpr h]
theorem own_at {p : Program} {e : Env} {below : List Frame} {A B t : State} (h : B = A) (q : Steps p.tables e below B t) : Steps p.tables e below A t := h ▸ q
abbrev rO (f c s l : Nat) : Room := { frames := f, cells := c, slots := s, locals := l }
abbrev own_Met (l : Launch) (y : MethodName) (code : ByteArray) (ml : Nat) (ret : Option FieldType) (ws : List Jvm.Cond) (rm : Room) (as' : Array Value) (Z : State) (h0 : Heap) (Q : Option Value → Heap → List Loc → Prop) : Prop :=
  MetFree l y (head1 (Jvm.Cond.code y code ml ret :: ws) rm) (fun ar_ U => ar_ = as' ∧ Z.Warmed39 U.vm ∧ U.heap = h0) (fun _ _ _ _ _ => True) (fun _ U o U' => ∃ v L, o = .returned v ∧ Q v U'.heap L ∧ FrameEnd U o U' L rm.cells rm.slots)
theorem own_InsKeep {Z : State} {h h' : Heap} {b : Addr} {C : String} {bo : Bool} {ws : List Addr} (F : Ins Z h b C bo) (K : Keep h h' ws) (q : b ∉ ws) : Ins Z h' b C bo := by obtain ⟨cell, k, h1, r⟩ := F; exact ⟨cell, k, K.2.1 _ _ h1 q, r⟩
theorem wT {Z : State} {a0 : Array Value} (hw : ∀ d ∈ tables_1, d.before a0 Z = true) (i : Nat) {d : Jvm.Cond} (h : tables_1[i]? = some d) : d.before a0 Z = true := hw d (List.mem_of_getElem? h)
theorem own_mvNest {Z s : State} {a0 args : Array Value} {own host : String} {index : Nat} {y : MethodName} (hZ : Z.Warmed39 s.vm) (w : (Cond.methodLinkNest own index y host).before a0 Z = true) : (Cond.methodLinkNest own index y host).before args s = true := (Cond.methodLinkNest_wide hZ w :)
theorem own_pop2 {tb : Tables} [Ours tb] {e : Env} {below : List Frame} {T target : State} {m : MethodId} {c : Code} {g : JFrame} (h : At T m c below) (hx : tb.exec = Jvm.exec) (hg : g.method = m) {x : UInt64} {rest : List Value} (hd : decode c.code g.pc = .ok (.pop2, 1)) (hs : g.stack = .double x :: rest)
    (hr : Steps tb e below (T.setTop { g with pc := g.pc + 1, stack := rest }) target) : Steps tb e below (T.setTop g) target := by
  subst hg
  jvm_step h [h.top, hx, hd, hs, Value.category]
  exact hr
open Jvm.Pilot.@@N@@.Dyad
open Jvm.FP.Core (val64)
theorem own_msk31 (x : Int32) : 0 ≤ (x &&& (2147483647 : Int32)).toInt ∧ (x &&& (2147483647 : Int32)).toInt < 2147483648 := by
  have h1 := c_mask x (2147483647 : Int32) 31 (by decide) (by decide)
  rw [h1]; omega
abbrev own_M (x : Int32) : Int32 := ((x &&& (1048575 : Int32)) + (1 : Int32))
theorem own_M_rng (x : Int32) : 1 ≤ (own_M x).toInt ∧ (own_M x).toInt ≤ 1048576 := by
  have h1 := c_mask x (1048575 : Int32) 20 (by decide) (by decide)
  have h3 := c_iadd (x &&& (1048575 : Int32)) (1 : Int32)
  have h4 := rng32 ((x &&& (1048575 : Int32)) + (1 : Int32))
  rw [h1, show (1 : Int32).toInt = 1 from rfl] at h3
  unfold own_M; omega
abbrev own_L (x : Int32) : Int32 := (x &&& (2147483647 : Int32))
abbrev own_Q (x : Int32) : Int32 := (x &&& (65535 : Int32))
theorem own_Q_rng (x : Int32) : 0 ≤ (own_Q x).toInt ∧ (own_Q x).toInt < 65536 := by
  have h1 := c_mask x (65535 : Int32) 16 (by decide) (by decide)
  unfold own_Q; rw [h1]; omega
abbrev own_mu (m : Int32) : UInt64 := FP.ddiv (FP.i2d (own_M m)) (4620693217682128896 : UInt64)
theorem own_mu_dy (m : Int32) : Dy (own_M m).toInt 3 (own_mu m) := div8 (Dy.i2d _) (i32_53 _)
abbrev own_dd (l m : Int32) : UInt64 := FP.dadd (FP.i2d (own_L l)) (own_mu m)
theorem own_dd_dy (l m : Int32) : Dy (8 * (own_L l).toInt + (own_M m).toInt) 3 (own_dd l m) := by
  have h1 : Dy (8 * (own_L l).toInt) 3 (FP.i2d (own_L l)) := (Dy.i2d _).up 3 rfl (by rw [Int.mul_comm]; rfl)
  have r1 := own_msk31 l
  have r2 := own_M_rng m
  exact h1.add (own_mu_dy m) (by show (8 * (own_L l).toInt + (own_M m).toInt).natAbs < 2 ^ 53; unfold own_L; omega) (by decide)
abbrev own_qq (q : Int32) : UInt64 := FP.ddiv (FP.i2d (own_Q q)) (4652218415073722368 : UInt64)
theorem own_qq_dy (q : Int32) : Dy (own_Q q).toInt 10 (own_qq q) := div1024 (Dy.i2d _) (i32_53 _)
abbrev own_nu (l m q : Int32) : UInt64 := FP.dmul (own_qq q) (own_dd l m)
abbrev own_N (l m q : Int32) : Int := (own_Q q).toInt * (8 * (own_L l).toInt + (own_M m).toInt)
theorem own_N_rng (l m q : Int32) : 0 ≤ own_N l m q ∧ own_N l m q < 2 ^ 52 := by
  have r1 := own_msk31 l
  have r2 := own_M_rng m
  have r3 := own_Q_rng q
  have b1 : 0 ≤ 8 * (own_L l).toInt + (own_M m).toInt := by unfold own_L; omega
  have b2 : 8 * (own_L l).toInt + (own_M m).toInt ≤ 17180917760 := by unfold own_L; omega
  unfold own_N
  refine ⟨Int.mul_nonneg r3.1 b1, ?_⟩
  have : (own_Q q).toInt * (8 * (own_L l).toInt + (own_M m).toInt) ≤ 65535 * 17180917760 := Int.mul_le_mul (by omega) b2 b1 (by decide)
  omega
theorem own_nu_dy (l m q : Int32) : Dy (own_N l m q) 13 (own_nu l m q) := by
  have r := own_N_rng l m q
  exact (own_qq_dy q).mul (own_dd_dy l m) (by show (own_N l m q).natAbs < 2 ^ 53; omega) (by decide)
def own_min (a b : Int64) : Int64 := if 0 < lcmpW a b then b else a
theorem own_min_val (a b : Int64) : (own_min a b).toInt = if b.toInt < a.toInt then b.toInt else a.toInt := by
  unfold own_min lcmpW
  by_cases h1 : b < a
  · rw [if_pos h1, if_pos (by decide), if_pos (Int64.lt_iff_toInt_lt.mp h1)]
  · have h1' : ¬ b.toInt < a.toInt := fun q => h1 (Int64.lt_iff_toInt_lt.mpr q)
    rw [if_neg h1, if_neg h1']
    by_cases h2 : a = b
    · rw [if_pos h2, if_neg (by decide)]
    · rw [if_neg h2, if_neg (by decide)]
abbrev own_fr (f l m q : Int32) : Int32 := (own_min ((f &&& (2147483647 : Int32)).toInt64) (FP.d2l (own_nu l m q))).toInt32
theorem own_d2l (l m q : Int32) : (FP.d2l (own_nu l m q)).toInt = own_N l m q / 8192 := by
  have h := (own_nu_dy l m q)
  have r := own_N_rng l m q
  exact Dy.d2l h r.1 8192 rfl (by omega)
theorem own_fr_val (f l m q : Int32) : 0 ≤ (own_fr f l m q).toInt ∧ 8192 * (own_fr f l m q).toInt ≤ own_N l m q := by
  have r := own_N_rng l m q
  have rf := own_msk31 f
  have e := own_min_val ((f &&& (2147483647 : Int32)).toInt64) (FP.d2l (own_nu l m q))
  rw [own_d2l, c_i2l] at e
  have c := c_l2i (own_min ((f &&& (2147483647 : Int32)).toInt64) (FP.d2l (own_nu l m q)))
  have r3 := rng32 (own_fr f l m q)
  unfold own_fr at *
  rw [e] at c
  split at c <;> omega
abbrev own_bg (f l m q : Int32) : UInt64 := FP.dsub (own_nu l m q) (FP.i2d (own_fr f l m q))
theorem own_bg_dy (f l m q : Int32) : Dy (own_N l m q - 8192 * (own_fr f l m q).toInt) 13 (own_bg f l m q) := by
  have h1 : Dy (8192 * (own_fr f l m q).toInt) 13 (FP.i2d (own_fr f l m q)) := (Dy.i2d _).up 13 rfl (by rw [Int.mul_comm]; rfl)
  have r := own_N_rng l m q
  have g := own_fr_val f l m q
  exact (own_nu_dy l m q).sub h1 (by omega) (by decide)
theorem own_mu_gt (m : Int32) : cmpValue (FP.dcmp (own_mu m) FP.dconst0) .l = 1 := (own_mu_dy m).gt (dy0.up 3 rfl rfl) (by have := own_M_rng m; omega) _
theorem own_mu_lt (m : Int32) : cmpValue (FP.dcmp (own_mu m) (9218868437227405312 : UInt64)) .g = -1 := by
  refine dcmp_pinf (Jvm.Free.Fl.fin64_core.mpr ?_) _
  obtain ⟨s, c, q, e, -⟩ := (own_mu_dy m).fin
  exact ⟨s, c, q, e⟩
theorem own_sum_dy (f l m q : Int32) : Dy (own_N l m q) 13 (FP.dadd (FP.i2d (own_fr f l m q)) (own_bg f l m q)) := by
  have h1 : Dy (8192 * (own_fr f l m q).toInt) 13 (FP.i2d (own_fr f l m q)) := (Dy.i2d _).up 13 rfl (by rw [Int.mul_comm]; rfl)
  have r := own_N_rng l m q
  exact (h1.add (own_bg_dy f l m q) (by omega) (by decide)).cast (by omega)
abbrev own_pr (f l m q : Int32) : UInt64 := FP.ddiv (FP.dadd (FP.i2d (own_fr f l m q)) (own_bg f l m q)) (own_dd l m)
theorem own_pr_dy (f l m q : Int32) : Dy (own_Q q).toInt 10 (own_pr f l m q) := by
  have r1 := own_msk31 l
  have r2 := own_M_rng m
  exact (own_sum_dy f l m q).div 0 0 (own_dd_dy l m) (by unfold own_L; omega) (by decide) rfl (i32_53 _) (by decide)
theorem own_bg_ge (f l m q : Int32) : ¬ cmpValue (FP.dcmp (own_bg f l m q) FP.dconst0) .l < 0 := by
  have h := own_bg_dy f l m q
  have z : Dy 0 13 FP.dconst0 := dy0.up 13 rfl rfl
  have g := own_fr_val f l m q
  by_cases q0 : own_N l m q - 8192 * (own_fr f l m q).toInt = 0
  · rw [h.eq z q0]; decide
  · rw [h.gt z (by omega)]; decide
theorem own_fin (f l m q : Int32) : cmpValue (FP.dcmp (own_pr f l m q) (own_qq q)) .l = 0 := (own_pr_dy f l m q).eq (own_qq_dy q) rfl _

def Q_rmR (h0 : Heap) (n0 : Nat) (v : Option Value) (h : Heap) (L : List Loc) : Prop := v = none ∧ Fr n0 L ∧ h = h0
theorem own_h1 : decode jdk_30_method_1_code 0 = .ok (.aload_n 0, 1) := by decide +kernel
theorem own_h2 : decode jdk_30_method_1_code 1 = .ok (.invokespecial 1, 3) := by decide +kernel
theorem own_h3 : decode jdk_30_method_1_code 4 = .ok (.return_, 1) := by decide +kernel
theorem own_h4 : plainName "java/lang/Record" = true := by first | (simp [plainName, overriddenIn]; done) | decide +kernel
theorem own_h5 : parseMethodDescriptor "(JJ)J" = some ⟨[.long, .long], some .long⟩ := by decide +kernel
theorem own_h6 : parseMethodDescriptor "(D)V" = some ⟨[.double], none⟩ := by decide +kernel
theorem own_h7 : parseMethodDescriptor "()V" = some ⟨[], none⟩ := by decide +kernel
theorem own_h8 : parseMethodDescriptor "(IID)D" = some ⟨[.int, .int, .double], some .double⟩ := by decide +kernel
set_option maxRecDepth 65536 in
set_option maxHeartbeats 40000000 in
theorem rmR (l : Launch) (Z : State) (a0 : Array Value) (hw : ∀ d ∈ tables_1, d.before a0 Z = true) (ws : List Jvm.Cond) (a : Addr) (h0 : Heap) (n0 : Nat) (Z0 : n0 ≤ h0.size) :
    MetFree l (⟨"java/lang/Record", "<init>", "()V"⟩ : MethodName) (head1 (Jvm.Cond.code (⟨"java/lang/Record", "<init>", "()V"⟩ : MethodName) jdk_30_method_1_code 1 none :: ws) ({ frames := 1, cells := 0, slots := 0, locals := 12 } : Room)) (fun ar_ U => ar_ = #[(.ref a)] ∧ Z.Warmed39 U.vm ∧ U.heap = h0) (fun _ _ _ _ _ => True) (fun _ U o U' => ∃ v L, o = .returned v ∧ Q_rmR h0 n0 v U'.heap L ∧ FrameEnd U o U' L ({ frames := 1, cells := 0, slots := 0, locals := 12 } : Room).cells ({ frames := 1, cells := 0, slots := 0, locals := 12 } : Room).slots) := by
  refine MetFree.of_bodySF (plainFor_of_name own_h4) hisR ?_
  intro p e s m args below meth c s₁ Bd hml0 hP hK
  obtain ⟨rfl, hZ, hh⟩ := hP
  have hx := Bd.exec
  have hby := Bd.bytes
  have hml : c.maxLocals = 1 := hml0
  have hown : s.vm.findClass "java/lang/Record" = some m.cls := findClass_of_methodNamed Bd.named
  have hnm := (name_of_methodNamed Bd.named Bd.method).1
  have X0 : Stand p l e ({ frames := 1, cells := 0, slots := 0, locals := 12 } : Room) s m #[(.ref a)] below meth c s₁ [] 0 0 := Stand.of_body Bd
  have e0 : s₁.heap = h0 := by rw [← hh, Bd.state]; rfl
  have N0 := Fr.nil n0
  have k0 : own_K p e below (s₁.setTop (mkF m 0 #[.val (.ref a)] [])) (s₁.setTop (entryFrame m #[(.ref a)] 1)) := fun t k => castTop (by clear k; first | (simp [entryFrame, mkF, argsToLocals, Value.category, maxLocals]; done) | rfl) k
  have k1 : own_K p e below (s₁.setTop (mkF m 1 #[.val (.ref a)] [(.ref a)])) (s₁.setTop (entryFrame m #[(.ref a)] 1)) := fun t hh => k0 t (by
    refine XS.aloadN X0.here hx rfl (hb hby own_h1) rfl rfl ?_
    show Steps p.tables e below (s₁.setTop (mkF m 1 #[.val (.ref a)] [(.ref a)])) _
    exact hh)
  obtain ⟨T1, X2, e3, st4⟩ := initO X0 hx hZ hown (wT hw 20 rfl) (wT hw 21 rfl) (wT hw 22 rfl) e0 (g := (mkF m 1 #[.val (.ref a)] [(.ref a)])) rfl (by rw [hml]; rfl) rfl (hb hby own_h2) (by decide) (W := 0) (by show 2 * 0 + _ ≤ _; exact Nat.le_of_eq rfl) (by decide)
  have k2 : own_K p e below (T1.setTop (mkF m 4 #[.val (.ref a)] [])) (s₁.setTop (entryFrame m #[(.ref a)] 1)) := fun t hh => k1 t (st4 t hh)
  obtain ⟨fs, hr, hrun, hended, hW, hsame⟩ := X2.leave (v := none) (fun _ => rfl)
  refine ⟨_, _, k2 _ (X2.returnOut hx Bd.returns (hb hby own_h3) hr), hrun, hended, _, _, rfl, ?_, ⟨_, rfl⟩, hW, hsame.mono (by decide) (by decide)⟩
  show Q_rmR h0 n0 _ T1.heap _
  rw [e3]
  exact ⟨rfl, N0, rfl⟩
def Q_rmC (Z : State) (a : Addr) (d : UInt64) (h0 : Heap) (n0 : Nat) (v : Option Value) (h : Heap) (L : List Loc) : Prop := v = none ∧ Fr n0 L ∧ Keep h0 h [a] ∧ Exa Z h a "com/example/geirfa/geirfa/retrieval/Smoothing$Dirichlet" ∧ Fld Z h a "com/example/geirfa/geirfa/retrieval/Smoothing$Dirichlet" "mu" "D" (.double d)
theorem own_h9 : decode prog_28_method_1_code 0 = .ok (.aload_n 0, 1) := by decide +kernel
theorem own_h10 : decode prog_28_method_1_code 1 = .ok (.invokespecial 1, 3) := by decide +kernel
theorem own_h11 : decode prog_28_method_1_code 4 = .ok (.dload_n 1, 1) := by decide +kernel
theorem own_h12 : decode prog_28_method_1_code 5 = .ok (.dconst 0, 1) := by decide +kernel
theorem own_h13 : decode prog_28_method_1_code 6 = .ok (.dcmp .l, 1) := by decide +kernel
theorem own_h14 : decode prog_28_method_1_code 7 = .ok (.ifCond .le 11, 3) := by decide +kernel
theorem own_h15 : decode prog_28_method_1_code 10 = .ok (.dload_n 1, 1) := by decide +kernel
theorem own_h16 : decode prog_28_method_1_code 11 = .ok (.ldc2_w 9, 3) := by decide +kernel
theorem own_h17 : decode prog_28_method_1_code 14 = .ok (.dcmp .g, 1) := by decide +kernel
theorem own_h18 : decode prog_28_method_1_code 15 = .ok (.ifCond .lt 17, 3) := by decide +kernel
theorem own_h19 : decode prog_28_method_1_code 18 = .ok (.new 11, 3) := by decide +kernel
theorem own_h20 : decode prog_28_method_1_code 21 = .ok (.dup, 1) := by decide +kernel
theorem own_h21 : decode prog_28_method_1_code 22 = .ok (.dload_n 1, 1) := by decide +kernel
theorem own_h22 : decode prog_28_method_1_code 23 = .ok (.invokedynamic 13, 5) := by decide +kernel
theorem own_h23 : decode prog_28_method_1_code 28 = .ok (.invokespecial 17, 3) := by decide +kernel
theorem own_h24 : decode prog_28_method_1_code 31 = .ok (.athrow, 1) := by decide +kernel
theorem own_h25 : decode prog_28_method_1_code 32 = .ok (.aload_n 0, 1) := by decide +kernel
theorem own_h26 : decode prog_28_method_1_code 33 = .ok (.dload_n 1, 1) := by decide +kernel
theorem own_h27 : decode prog_28_method_1_code 34 = .ok (.putfield 20, 3) := by decide +kernel
theorem own_h28 : decode prog_28_method_1_code 37 = .ok (.return_, 1) := by decide +kernel
theorem own_h29 : plainName "com/example/geirfa/geirfa/retrieval/Smoothing$Dirichlet" = true := by first | (simp [plainName, overriddenIn]; done) | decide +kernel
set_option maxRecDepth 65536 in
set_option maxHeartbeats 40000000 in
theorem rmC (l : Launch) (Z : State) (a0 : Array Value) (hw : ∀ d ∈ tables_1, d.before a0 Z = true) (ws : List Jvm.Cond) (a : Addr) (d : UInt64) (h0 : Heap) (n0 : Nat) (Z0 : n0 ≤ h0.size) (F1 : Fld Z h0 a "com/example/geirfa/geirfa/retrieval/Smoothing$Dirichlet" "mu" "D" (.double (0 : UInt64))) (E1 : Exa Z h0 a "com/example/geirfa/geirfa/retrieval/Smoothing$Dirichlet") (g1 : n0 ≤ a) (c1 : cmpValue (FP.dcmp d FP.dconst0) .l = 1) (c2 : cmpValue (FP.dcmp d (9218868437227405312 : UInt64)) .g = -1) :
    MetFree l (⟨"com/example/geirfa/geirfa/retrieval/Smoothing$Dirichlet", "<init>", "(D)V"⟩ : MethodName) (head1 (Jvm.Cond.code (⟨"com/example/geirfa/geirfa/retrieval/Smoothing$Dirichlet", "<init>", "(D)V"⟩ : MethodName) prog_28_method_1_code 3 none :: ws) ({ frames := 2, cells := 0, slots := 0, locals := 24 } : Room)) (fun ar_ U => ar_ = #[(.ref a), (.double d)] ∧ Z.Warmed39 U.vm ∧ U.heap = h0) (fun _ _ _ _ _ => True) (fun _ U o U' => ∃ v L, o = .returned v ∧ Q_rmC Z a d h0 n0 v U'.heap L ∧ FrameEnd U o U' L ({ frames := 2, cells := 0, slots := 0, locals := 24 } : Room).cells ({ frames := 2, cells := 0, slots := 0, locals := 24 } : Room).slots) := by
  refine MetFree.of_bodySF (plainFor_of_name own_h29) hisR ?_
  intro p e s m args below meth c s₁ Bd hml0 hP hK
  obtain ⟨rfl, hZ, hh⟩ := hP
  have hx := Bd.exec
  have hby := Bd.bytes
  have hml : c.maxLocals = 3 := hml0
  have hown : s.vm.findClass "com/example/geirfa/geirfa/retrieval/Smoothing$Dirichlet" = some m.cls := findClass_of_methodNamed Bd.named
  have hnm := (name_of_methodNamed Bd.named Bd.method).1
  have X0 : Stand p l e ({ frames := 2, cells := 0, slots := 0, locals := 24 } : Room) s m #[(.ref a), (.double d)] below meth c s₁ [] 0 0 := Stand.of_body Bd
  have e0 : s₁.heap = h0 := by rw [← hh, Bd.state]; rfl
  have N0 := Fr.nil n0
  have k0 : own_K p e below (s₁.setTop (mkF m 0 #[.val (.ref a), .val (.double d), .second] [])) (s₁.setTop (entryFrame m #[(.ref a), (.double d)] 3)) := fun t k => castTop (by clear k; first | (simp [entryFrame, mkF, argsToLocals, Value.category, maxLocals]; done) | rfl) k
  have K0 : Keep h0 h0 [a] := Keep.refl _ _
  have k1 : own_K p e below (s₁.setTop (mkF m 1 #[.val (.ref a), .val (.double d), .second] [(.ref a)])) (s₁.setTop (entryFrame m #[(.ref a), (.double d)] 3)) := fun t hh => k0 t (by
    refine XS.aloadN X0.here hx rfl (hb hby own_h9) rfl rfl ?_
    show Steps p.tables e below (s₁.setTop (mkF m 1 #[.val (.ref a), .val (.double d), .second] [(.ref a)])) _
    exact hh)
  obtain ⟨_, _, ⟨T5, L6, k_7, n_8⟩, -, X9, ⟨Lc10, hQ11, l_12, y_13, z_14⟩, st15⟩ := X0.specialBack hx (y := (⟨"java/lang/Record", "<init>", "()V"⟩ : MethodName)) rfl hown (mvT hZ (wT hw 15 rfl)) (mvT hZ (wT hw 16 rfl)) (mvT hZ (wT hw 19 rfl)) (by decide) (backOf (W := 0) (rmR l Z a0 hw [] a h0 n0 Z0) hZ (wT hw 19 rfl) (wT hw 18 rfl) (by decide) (by decide)) (g := (mkF m 1 #[.val (.ref a), .val (.double d), .second] [(.ref a)])) rfl (by rw [hml]; rfl) (Steps.refl _) (a := a) (argsL := []) (rest := []) (lenOf own_h7 rfl) rfl (by show 2 * 0 + _ ≤ _; exact Nat.le_of_eq rfl) (hb hby own_h10) (fun _ _ => ⟨rfl, e0, (by decide : 0 + 0 ≤ _), (by decide : 0 + 0 ≤ _)⟩)
  dsimp only [Pt.U, Pt.locs, Pt.cells, Pt.slots] at X9 l_12 y_13 z_14 st15 hQ11
  subst l_12 y_13 z_14
  obtain ⟨rfl, N16, e17⟩ := hQ11
  have N18 := Fr.app N0 N16
  have k2 : own_K p e below (T5.setTop (mkF m 4 #[.val (.ref a), .val (.double d), .second] [])) (s₁.setTop (entryFrame m #[(.ref a), (.double d)] 3)) := fun t hh => k1 t (st15.trans hh)
  have k3 : own_K p e below (T5.setTop (mkF m 34 #[.val (.ref a), .val (.double d), .second] [(.double d), (.ref a)])) (s₁.setTop (entryFrame m #[(.ref a), (.double d)] 3)) := fun t hh => k2 t (by
    refine XS.dloadN X9.here hx rfl (hb hby own_h11) rfl ?_
    show Steps p.tables e below (T5.setTop (mkF m 5 #[.val (.ref a), .val (.double d), .second] [(.double d)])) _
    refine XS.dconst0 X9.here hx rfl (hb hby own_h12) rfl ?_
    show Steps p.tables e below (T5.setTop (mkF m 6 #[.val (.ref a), .val (.double d), .second] [(.double FP.dconst0), (.double d)])) _
    refine XS.dcmpS X9.here hx rfl (hb hby own_h13) rfl c1 ?_
    show Steps p.tables e below (T5.setTop (mkF m 7 #[.val (.ref a), .val (.double d), .second] [(.int (1 : Int32))])) _
    refine XS.ifNo X9.here hx rfl (hb hby own_h14) rfl (by decide) ?_
    show Steps p.tables e below (T5.setTop (mkF m 10 #[.val (.ref a), .val (.double d), .second] [])) _
    refine XS.dloadN X9.here hx rfl (hb hby own_h15) rfl ?_
    show Steps p.tables e below (T5.setTop (mkF m 11 #[.val (.ref a), .val (.double d), .second] [(.double d)])) _
    refine X9.ldc2DoubleC hx hown (mvT hZ (wT hw 23 rfl)) (g := (mkF m 11 #[.val (.ref a), .val (.double d), .second] [(.double d)])) rfl (hb hby own_h16) _ ?_
    show Steps p.tables e below (T5.setTop (mkF m 14 #[.val (.ref a), .val (.double d), .second] [(.double (9218868437227405312 : UInt64)), (.double d)])) _
    refine XS.dcmpS X9.here hx rfl (hb hby own_h17) rfl c2 ?_
    show Steps p.tables e below (T5.setTop (mkF m 15 #[.val (.ref a), .val (.double d), .second] [(.int (-1 : Int32))])) _
    refine XS.ifYes X9.here hx rfl (pc0 := 15) (pc' := 32) rfl (hb hby own_h18) rfl (by decide) (by decide) (by decide) ?_
    show Steps p.tables e below (T5.setTop (mkF m 32 #[.val (.ref a), .val (.double d), .second] [])) _
    refine XS.aloadN X9.here hx rfl (hb hby own_h25) rfl rfl ?_
    show Steps p.tables e below (T5.setTop (mkF m 33 #[.val (.ref a), .val (.double d), .second] [(.ref a)])) _
    refine XS.dloadN X9.here hx rfl (hb hby own_h26) rfl ?_
    show Steps p.tables e below (T5.setTop (mkF m 34 #[.val (.ref a), .val (.double d), .second] [(.double d), (.ref a)])) _
    exact hh)
  obtain ⟨T19, h20, X21, e22, W23, st24⟩ := putF X9 hx hZ hown (host := "") (Or.inl (wT hw 24 rfl)) Via.refl e17 F1 E1 (Or.inr ⟨(wT hw 25 rfl), rfl, hnm⟩) (wT hw 10 rfl) (ty := .double) (by decide) rfl rfl (g := (mkF m 34 #[.val (.ref a), .val (.double d), .second] [(.double d), (.ref a)])) rfl rfl (hb hby own_h27)
  have N25 := Fr.snoc X21 N18 g1
  have F26 : Fld Z h20 a "com/example/geirfa/geirfa/retrieval/Smoothing$Dirichlet" "mu" "D" (.double d) := Fld.same W23 F1
  have F27 := Exa.wr W23 E1
  have Z28 : n0 ≤ h20.size := W23.size ▸ Z0
  have P29 : Keep h0 h20 [a] := K0.wr W23 (Or.inl (List.mem_of_getElem? (i := 0) rfl))
  have k4 : own_K p e below (T19.setTop (mkF m 37 #[.val (.ref a), .val (.double d), .second] [])) (s₁.setTop (entryFrame m #[(.ref a), (.double d)] 3)) := fun t hh => k3 t (st24 t hh)
  obtain ⟨fs, hr, hrun, hended, hW, hsame⟩ := X21.leave (v := none) (fun _ => rfl)
  refine ⟨_, _, k4 _ (X21.returnOut hx Bd.returns (hb hby own_h28) hr), hrun, hended, _, _, rfl, ?_, ⟨_, rfl⟩, hW, hsame.mono (by decide) (by decide)⟩
  show Q_rmC Z a d h0 n0 _ T19.heap _
  rw [e22]
  exact ⟨rfl, N25, P29, F27, F26⟩
def QM (r : Int64) (h0 : Heap) (n0 : Nat) (v : Option Value) (h : Heap) (L : List Loc) : Prop := v = some (.long r) ∧ Fr n0 L ∧ h = h0
theorem own_h30 : decode jdk_29_method_70_code 0 = .ok (.lload_n 0, 1) := by decide +kernel
theorem own_h31 : decode jdk_29_method_70_code 1 = .ok (.lload_n 2, 1) := by decide +kernel
theorem own_h32 : decode jdk_29_method_70_code 2 = .ok (.lcmp, 1) := by decide +kernel
theorem own_h33 : decode jdk_29_method_70_code 3 = .ok (.ifCond .gt 7, 3) := by decide +kernel
theorem own_h34 : decode jdk_29_method_70_code 6 = .ok (.lload_n 0, 1) := by decide +kernel
theorem own_h35 : decode jdk_29_method_70_code 7 = .ok (.goto 4, 3) := by decide +kernel
theorem own_h36 : decode jdk_29_method_70_code 10 = .ok (.lload_n 2, 1) := by decide +kernel
theorem own_h37 : decode jdk_29_method_70_code 11 = .ok (.lreturn, 1) := by decide +kernel
theorem own_h38 : plainFor (⟨"java/lang/Math", "min", "(JJ)J"⟩ : MethodName) = true := by decide +kernel
set_option maxRecDepth 65536 in
set_option maxHeartbeats 40000000 in
theorem rmM (l : Launch) (Z : State) (a0 : Array Value) (hw : ∀ d ∈ tables_1, d.before a0 Z = true) (ws : List Jvm.Cond) (xv yv : Int64) (h0 : Heap) (n0 : Nat) (Z0 : n0 ≤ h0.size) :
    MetFree l (⟨"java/lang/Math", "min", "(JJ)J"⟩ : MethodName) (head1 (Jvm.Cond.code (⟨"java/lang/Math", "min", "(JJ)J"⟩ : MethodName) jdk_29_method_70_code 4 (some .long) :: ws) ({ frames := 0, cells := 0, slots := 0, locals := 0 } : Room)) (fun ar_ U => ar_ = #[(.long xv), (.long yv)] ∧ Z.Warmed39 U.vm ∧ U.heap = h0) (fun _ _ _ _ _ => True) (fun _ U o U' => ∃ v L, o = .returned v ∧ QM (own_min xv yv) h0 n0 v U'.heap L ∧ FrameEnd U o U' L ({ frames := 0, cells := 0, slots := 0, locals := 0 } : Room).cells ({ frames := 0, cells := 0, slots := 0, locals := 0 } : Room).slots) := by
  refine MetFree.of_bodySF own_h38 hisR ?_
  intro p e s m args below meth c s₁ Bd hml0 hP hK
  obtain ⟨rfl, hZ, hh⟩ := hP
  have hx := Bd.exec
  have hby := Bd.bytes
  have hml : c.maxLocals = 4 := hml0
  have hown : s.vm.findClass "java/lang/Math" = some m.cls := findClass_of_methodNamed Bd.named
  have hnm := (name_of_methodNamed Bd.named Bd.method).1
  have X0 : Stand p l e ({ frames := 0, cells := 0, slots := 0, locals := 0 } : Room) s m #[(.long xv), (.long yv)] below meth c s₁ [] 0 0 := Stand.of_body Bd
  have e0 : s₁.heap = h0 := by rw [← hh, Bd.state]; rfl
  have N0 := Fr.nil n0
  have k0 : own_K p e below (s₁.setTop (mkF m 0 #[.val (.long xv), .second, .val (.long yv), .second] [])) (s₁.setTop (entryFrame m #[(.long xv), (.long yv)] 4)) := fun t k => castTop (by clear k; first | (simp [entryFrame, mkF, argsToLocals, Value.category, maxLocals]; done) | rfl) k
  have k1 : own_K p e below (s₁.setTop (mkF m 3 #[.val (.long xv), .second, .val (.long yv), .second] [(.int (lcmpW xv yv))])) (s₁.setTop (entryFrame m #[(.long xv), (.long yv)] 4)) := fun t hh => k0 t (by
    refine XS.lloadN X0.here hx rfl (hb hby own_h30) rfl ?_
    show Steps p.tables e below (s₁.setTop (mkF m 1 #[.val (.long xv), .second, .val (.long yv), .second] [(.long xv)])) _
    refine XS.lloadN X0.here hx rfl (hb hby own_h31) rfl ?_
    show Steps p.tables e below (s₁.setTop (mkF m 2 #[.val (.long xv), .second, .val (.long yv), .second] [(.long yv), (.long xv)])) _
    refine XS.lcmp X0.here hx rfl (hb hby own_h32) rfl ?_
    show Steps p.tables e below (s₁.setTop (mkF m 3 #[.val (.long xv), .second, .val (.long yv), .second] [(.int (lcmpW xv yv))])) _
    exact hh)
  by_cases c3 : 0 < (lcmpW xv yv)
  ·
    have k2 : own_K p e below (s₁.setTop (mkF m 11 #[.val (.long xv), .second, .val (.long yv), .second] [(.long yv)])) (s₁.setTop (entryFrame m #[(.long xv), (.long yv)] 4)) := fun t hh => k1 t (by
      refine XS.ifYes X0.here hx rfl (pc0 := 3) (pc' := 10) rfl (hb hby own_h33) rfl (own_ifT_gt c3) (by decide) (by decide) ?_
      show Steps p.tables e below (s₁.setTop (mkF m 10 #[.val (.long xv), .second, .val (.long yv), .second] [])) _
      refine XS.lloadN X0.here hx rfl (hb hby own_h36) rfl ?_
      show Steps p.tables e below (s₁.setTop (mkF m 11 #[.val (.long xv), .second, .val (.long yv), .second] [(.long yv)])) _
      exact hh)
    obtain ⟨fs, hr, hrun, hended, hW, hsame⟩ := X0.leave (v := some (.long yv)) (fun h => by rw [Bd.returns] at h; cases h)
    refine ⟨_, _, k2 _ (retOut X0 hx (t := .long) Bd.returns rfl (Or.inr (Or.inl ⟨rfl, rfl, _, rfl⟩)) (hb hby own_h37) hr), hrun, hended, _, _, rfl, ?_, ⟨_, rfl⟩, hW, hsame.mono (by decide) (by decide)⟩
    show QM (own_min xv yv) h0 n0 _ s₁.heap _
    rw [e0]
    exact ⟨by simp only [own_min, c3, if_true, if_false], N0, rfl⟩
  ·
    have k3 : own_K p e below (s₁.setTop (mkF m 11 #[.val (.long xv), .second, .val (.long yv), .second] [(.long xv)])) (s₁.setTop (entryFrame m #[(.long xv), (.long yv)] 4)) := fun t hh => k1 t (by
      refine XS.ifNo X0.here hx rfl (hb hby own_h33) rfl (own_ifF_gt c3) ?_
      show Steps p.tables e below (s₁.setTop (mkF m 6 #[.val (.long xv), .second, .val (.long yv), .second] [])) _
      refine XS.lloadN X0.here hx rfl (hb hby own_h34) rfl ?_
      show Steps p.tables e below (s₁.setTop (mkF m 7 #[.val (.long xv), .second, .val (.long yv), .second] [(.long xv)])) _
      refine XS.goto X0.here hx rfl (pc0 := 7) (pc' := 11) rfl (hb hby own_h35) (by decide) (by decide) ?_
      show Steps p.tables e below (s₁.setTop (mkF m 11 #[.val (.long xv), .second, .val (.long yv), .second] [(.long xv)])) _
      exact hh)
    obtain ⟨fs, hr, hrun, hended, hW, hsame⟩ := X0.leave (v := some (.long xv)) (fun h => by rw [Bd.returns] at h; cases h)
    refine ⟨_, _, k3 _ (retOut X0 hx (t := .long) Bd.returns rfl (Or.inr (Or.inl ⟨rfl, rfl, _, rfl⟩)) (hb hby own_h37) hr), hrun, hended, _, _, rfl, ?_, ⟨_, rfl⟩, hW, hsame.mono (by decide) (by decide)⟩
    show QM (own_min xv yv) h0 n0 _ s₁.heap _
    rw [e0]
    exact ⟨by simp only [own_min, c3, if_true, if_false], N0, rfl⟩
def QB (r : UInt64) (h0 : Heap) (n0 : Nat) (v : Option Value) (h : Heap) (L : List Loc) : Prop := v = some (.double r) ∧ Fr n0 L ∧ h = h0
theorem own_h39 : decode prog_28_method_3_code 0 = .ok (.iload_n 1, 1) := by decide +kernel
theorem own_h40 : decode prog_28_method_3_code 1 = .ok (.i2d, 1) := by decide +kernel
theorem own_h41 : decode prog_28_method_3_code 2 = .ok (.dload_n 3, 1) := by decide +kernel
theorem own_h42 : decode prog_28_method_3_code 3 = .ok (.dadd, 1) := by decide +kernel
theorem own_h43 : decode prog_28_method_3_code 4 = .ok (.iload_n 2, 1) := by decide +kernel
theorem own_h44 : decode prog_28_method_3_code 5 = .ok (.i2d, 1) := by decide +kernel
theorem own_h45 : decode prog_28_method_3_code 6 = .ok (.aload_n 0, 1) := by decide +kernel
theorem own_h46 : decode prog_28_method_3_code 7 = .ok (.getfield 20, 3) := by decide +kernel
theorem own_h47 : decode prog_28_method_3_code 10 = .ok (.dadd, 1) := by decide +kernel
theorem own_h48 : decode prog_28_method_3_code 11 = .ok (.ddiv, 1) := by decide +kernel
theorem own_h49 : decode prog_28_method_3_code 12 = .ok (.dreturn, 1) := by decide +kernel
set_option maxRecDepth 65536 in
set_option maxHeartbeats 40000000 in
theorem rmB (l : Launch) (Z : State) (a0 : Array Value) (hw : ∀ d ∈ tables_1, d.before a0 Z = true) (ws : List Jvm.Cond) (a : Addr) (fv lv : Int32) (bv d : UInt64) (h0 : Heap) (n0 : Nat) (Z0 : n0 ≤ h0.size) (F1 : Fld Z h0 a "com/example/geirfa/geirfa/retrieval/Smoothing$Dirichlet" "mu" "D" (.double d)) (n1 : Jvm.Free.Fl.NoNaN64 (FP.dadd (FP.i2d fv) bv)) (n2 : Jvm.Free.Fl.NoNaN64 (FP.dadd (FP.i2d lv) d)) (n3 : Jvm.Free.Fl.NoNaN64 (FP.ddiv (FP.dadd (FP.i2d fv) bv) (FP.dadd (FP.i2d lv) d))) :
    MetFree l (⟨"com/example/geirfa/geirfa/retrieval/Smoothing$Dirichlet", "probability", "(IID)D"⟩ : MethodName) (head1 (Jvm.Cond.code (⟨"com/example/geirfa/geirfa/retrieval/Smoothing$Dirichlet", "probability", "(IID)D"⟩ : MethodName) prog_28_method_3_code 5 (some .double) :: ws) ({ frames := 0, cells := 0, slots := 0, locals := 0 } : Room)) (fun ar_ U => ar_ = #[(.ref a), (.int fv), (.int lv), (.double bv)] ∧ Z.Warmed39 U.vm ∧ U.heap = h0) (fun _ _ _ _ _ => True) (fun _ U o U' => ∃ v L, o = .returned v ∧ QB (FP.ddiv (FP.dadd (FP.i2d fv) bv) (FP.dadd (FP.i2d lv) d)) h0 n0 v U'.heap L ∧ FrameEnd U o U' L ({ frames := 0, cells := 0, slots := 0, locals := 0 } : Room).cells ({ frames := 0, cells := 0, slots := 0, locals := 0 } : Room).slots) := by
  refine MetFree.of_bodySF (plainFor_of_name own_h29) hisR ?_
  intro p e s m args below meth c s₁ Bd hml0 hP hK
  obtain ⟨rfl, hZ, hh⟩ := hP
  have hx := Bd.exec
  have hby := Bd.bytes
  have hml : c.maxLocals = 5 := hml0
  have hown : s.vm.findClass "com/example/geirfa/geirfa/retrieval/Smoothing$Dirichlet" = some m.cls := findClass_of_methodNamed Bd.named
  have hnm := (name_of_methodNamed Bd.named Bd.method).1
  have X0 : Stand p l e ({ frames := 0, cells := 0, slots := 0, locals := 0 } : Room) s m #[(.ref a), (.int fv), (.int lv), (.double bv)] below meth c s₁ [] 0 0 := Stand.of_body Bd
  have e0 : s₁.heap = h0 := by rw [← hh, Bd.state]; rfl
  have N0 := Fr.nil n0
  have k0 : own_K p e below (s₁.setTop (mkF m 0 #[.val (.ref a), .val (.int fv), .val (.int lv), .val (.double bv), .second] [])) (s₁.setTop (entryFrame m #[(.ref a), (.int fv), (.int lv), (.double bv)] 5)) := fun t k => castTop (by clear k; first | (simp [entryFrame, mkF, argsToLocals, Value.category, maxLocals]; done) | rfl) k
  have k1 : own_K p e below (s₁.setTop (mkF m 7 #[.val (.ref a), .val (.int fv), .val (.int lv), .val (.double bv), .second] [(.ref a), (.double (FP.i2d lv)), (.double (FP.dadd (FP.i2d fv) bv))])) (s₁.setTop (entryFrame m #[(.ref a), (.int fv), (.int lv), (.double bv)] 5)) := fun t hh => k0 t (by
    refine XS.iloadN X0.here hx rfl (hb hby own_h39) rfl ?_
    show Steps p.tables e below (s₁.setTop (mkF m 1 #[.val (.ref a), .val (.int fv), .val (.int lv), .val (.double bv), .second] [(.int fv)])) _
    refine XS.i2dS X0.here hx rfl (hb hby own_h40) rfl rfl ?_
    show Steps p.tables e below (s₁.setTop (mkF m 2 #[.val (.ref a), .val (.int fv), .val (.int lv), .val (.double bv), .second] [(.double (FP.i2d fv))])) _
    refine XS.dloadN X0.here hx rfl (hb hby own_h41) rfl ?_
    show Steps p.tables e below (s₁.setTop (mkF m 3 #[.val (.ref a), .val (.int fv), .val (.int lv), .val (.double bv), .second] [(.double bv), (.double (FP.i2d fv))])) _
    refine XS.daddS X0.here hx rfl (hb hby own_h42) rfl n1 rfl ?_
    show Steps p.tables e below (s₁.setTop (mkF m 4 #[.val (.ref a), .val (.int fv), .val (.int lv), .val (.double bv), .second] [(.double (FP.dadd (FP.i2d fv) bv))])) _
    refine XS.iloadN X0.here hx rfl (hb hby own_h43) rfl ?_
    show Steps p.tables e below (s₁.setTop (mkF m 5 #[.val (.ref a), .val (.int fv), .val (.int lv), .val (.double bv), .second] [(.int lv), (.double (FP.dadd (FP.i2d fv) bv))])) _
    refine XS.i2dS X0.here hx rfl (hb hby own_h44) rfl rfl ?_
    show Steps p.tables e below (s₁.setTop (mkF m 6 #[.val (.ref a), .val (.int fv), .val (.int lv), .val (.double bv), .second] [(.double (FP.i2d lv)), (.double (FP.dadd (FP.i2d fv) bv))])) _
    refine XS.aloadN X0.here hx rfl (hb hby own_h45) rfl rfl ?_
    show Steps p.tables e below (s₁.setTop (mkF m 7 #[.val (.ref a), .val (.int fv), .val (.int lv), .val (.double bv), .second] [(.ref a), (.double (FP.i2d lv)), (.double (FP.dadd (FP.i2d fv) bv))])) _
    exact hh)
  obtain ⟨T30, X31, e32, st33⟩ := getF X0 hx hZ hown (host := "") (Or.inl (wT hw 24 rfl)) Via.refl e0 F1 (g := (mkF m 7 #[.val (.ref a), .val (.int fv), .val (.int lv), .val (.double bv), .second] [(.ref a), (.double (FP.i2d lv)), (.double (FP.dadd (FP.i2d fv) bv))])) rfl rfl (hb hby own_h46)
  have k2 : own_K p e below (T30.setTop (mkF m 10 #[.val (.ref a), .val (.int fv), .val (.int lv), .val (.double bv), .second] [(.double d), (.double (FP.i2d lv)), (.double (FP.dadd (FP.i2d fv) bv))])) (s₁.setTop (entryFrame m #[(.ref a), (.int fv), (.int lv), (.double bv)] 5)) := fun t hh => k1 t (st33 t hh)
  have k3 : own_K p e below (T30.setTop (mkF m 12 #[.val (.ref a), .val (.int fv), .val (.int lv), .val (.double bv), .second] [(.double (FP.ddiv (FP.dadd (FP.i2d fv) bv) (FP.dadd (FP.i2d lv) d)))])) (s₁.setTop (entryFrame m #[(.ref a), (.int fv), (.int lv), (.double bv)] 5)) := fun t hh => k2 t (by
    refine XS.daddS X31.here hx rfl (hb hby own_h47) rfl n2 rfl ?_
    show Steps p.tables e below (T30.setTop (mkF m 11 #[.val (.ref a), .val (.int fv), .val (.int lv), .val (.double bv), .second] [(.double (FP.dadd (FP.i2d lv) d)), (.double (FP.dadd (FP.i2d fv) bv))])) _
    refine XS.ddivS X31.here hx rfl (hb hby own_h48) rfl n3 rfl ?_
    show Steps p.tables e below (T30.setTop (mkF m 12 #[.val (.ref a), .val (.int fv), .val (.int lv), .val (.double bv), .second] [(.double (FP.ddiv (FP.dadd (FP.i2d fv) bv) (FP.dadd (FP.i2d lv) d)))])) _
    exact hh)
  obtain ⟨fs, hr, hrun, hended, hW, hsame⟩ := X31.leave (v := some (.double (FP.ddiv (FP.dadd (FP.i2d fv) bv) (FP.dadd (FP.i2d lv) d)))) (fun h => by rw [Bd.returns] at h; cases h)
  refine ⟨_, _, k3 _ (retOut X31 hx (t := .double) Bd.returns rfl (Or.inr (Or.inr (Or.inl ⟨rfl, rfl, _, rfl⟩))) (hb hby own_h49) hr), hrun, hended, _, _, rfl, ?_, ⟨_, rfl⟩, hW, hsame.mono (by decide) (by decide)⟩
  show QB (FP.ddiv (FP.dadd (FP.i2d fv) bv) (FP.dadd (FP.i2d lv) d)) h0 n0 _ T30.heap _
  rw [e32]
  exact ⟨rfl, N0, rfl⟩
def QL (h0 : Heap) (n0 : Nat) (v : Option Value) (h : Heap) (L : List Loc) : Prop := v = some (.int 1) ∧ Fr n0 L
theorem own_h50 : plainName "com/example/geirfa/geirfa/retrieval/DirichletProbabilityPinLaw" = true := by first | (simp [plainName, overriddenIn]; done) | decide +kernel
set_option maxRecDepth 65536 in
set_option maxHeartbeats 40000000 in
theorem rmL (l : Launch) (Z : State) (a0 : Array Value) (hw : ∀ d ∈ tables_1, d.before a0 Z = true) (ws : List Jvm.Cond) (f l_ m_ q_ : Int32) (h0 : Heap) (n0 : Nat) (Z0 : n0 ≤ h0.size) :
    MetFree l x (head1 (Jvm.Cond.code x code maxLocals ret :: ws) room_1) (fun ar_ U => ar_ = #[(.int f), (.int l_), (.int m_), (.int q_)] ∧ Z.Warmed39 U.vm ∧ U.heap = h0) (fun _ _ _ _ _ => True) (fun _ U o U' => ∃ v L, o = .returned v ∧ QL h0 n0 v U'.heap L ∧ FrameEnd U o U' L 16 128) := by
  refine MetFree.of_bodySF (plainFor_of_name own_h50) hisR ?_
  intro p e s m args below meth c s₁ Bd hml0 hP hK
  obtain ⟨rfl, hZ, hh⟩ := hP
  have hx := Bd.exec
  have hby := Bd.bytes
  have hml : c.maxLocals = 19 := hml0
  have hown : s.vm.findClass "com/example/geirfa/geirfa/retrieval/DirichletProbabilityPinLaw" = some m.cls := findClass_of_methodNamed Bd.named
  have hnm := (name_of_methodNamed Bd.named Bd.method).1
  have X0 : Stand p l e room_1 s m #[(.int f), (.int l_), (.int m_), (.int q_)] below meth c s₁ [] 0 0 := Stand.of_body Bd
  have e0 : s₁.heap = h0 := by rw [← hh, Bd.state]; rfl
  have N0 := Fr.nil n0
  have k0 : own_K p e below (s₁.setTop (mkF m 0 #[.val (.int f), .val (.int l_), .val (.int m_), .val (.int q_), .unset, .unset, .unset, .unset, .unset, .unset, .unset, .unset, .unset, .unset, .unset, .unset, .unset, .unset, .unset] [])) (s₁.setTop (entryFrame m #[(.int f), (.int l_), (.int m_), (.int q_)] maxLocals)) := fun t k => castTop (by clear k; first | (simp [entryFrame, mkF, argsToLocals, Value.category, maxLocals]; done) | rfl) k
  have k1 : own_K p e below (s₁.setTop (mkF m 13 #[.val (.int f), .val (.int l_), .val (.int m_), .val (.int q_), .val (.double (FP.ddiv (FP.i2d ((m_ &&& (1048575 : Int32)) + (1 : Int32))) (4620693217682128896 : UInt64))), .second, .unset, .unset, .unset, .unset, .unset, .unset, .unset, .unset, .unset, .unset, .unset, .unset, .unset] [])) (s₁.setTop (entryFrame m #[(.int f), (.int l_), (.int m_), (.int q_)] maxLocals)) := fun t hh => k0 t (by
    refine XS.iloadN X0.here hx rfl (hb hby at_0) rfl ?_
    show Steps p.tables e below (s₁.setTop (mkF m 1 #[.val (.int f), .val (.int l_), .val (.int m_), .val (.int q_), .unset, .unset, .unset, .unset, .unset, .unset, .unset, .unset, .unset, .unset, .unset, .unset, .unset, .unset, .unset] [(.int m_)])) _
    refine X0.ldcInt hx hown (mvT hZ (wT hw 0 rfl)) (g := (mkF m 1 #[.val (.int f), .val (.int l_), .val (.int m_), .val (.int q_), .unset, .unset, .unset, .unset, .unset, .unset, .unset, .unset, .unset, .unset, .unset, .unset, .unset, .unset, .unset] [(.int m_)])) rfl (hb hby at_1) _ ?_
    show Steps p.tables e below (s₁.setTop (mkF m 3 #[.val (.int f), .val (.int l_), .val (.int m_), .val (.int q_), .unset, .unset, .unset, .unset, .unset, .unset, .unset, .unset, .unset, .unset, .unset, .unset, .unset, .unset, .unset] [(.int (1048575 : Int32)), (.int m_)])) _
    refine XS.iand X0.here hx rfl (hb hby at_3) rfl ?_
    show Steps p.tables e below (s₁.setTop (mkF m 4 #[.val (.int f), .val (.int l_), .val (.int m_), .val (.int q_), .unset, .unset, .unset, .unset, .unset, .unset, .unset, .unset, .unset, .unset, .unset, .unset, .unset, .unset, .unset] [(.int (m_ &&& (1048575 : Int32)))])) _
    refine XS.iconst X0.here hx rfl (hb hby at_4) ?_
    show Steps p.tables e below (s₁.setTop (mkF m 5 #[.val (.int f), .val (.int l_), .val (.int m_), .val (.int q_), .unset, .unset, .unset, .unset, .unset, .unset, .unset, .unset, .unset, .unset, .unset, .unset, .unset, .unset, .unset] [(.int (1 : Int32)), (.int (m_ &&& (1048575 : Int32)))])) _
    refine XS.iadd X0.here hx rfl (hb hby at_5) rfl ?_
    show Steps p.tables e below (s₁.setTop (mkF m 6 #[.val (.int f), .val (.int l_), .val (.int m_), .val (.int q_), .unset, .unset, .unset, .unset, .unset, .unset, .unset, .unset, .unset, .unset, .unset, .unset, .unset, .unset, .unset] [(.int ((m_ &&& (1048575 : Int32)) + (1 : Int32)))])) _
    refine XS.i2dS X0.here hx rfl (hb hby at_6) rfl rfl ?_
    show Steps p.tables e below (s₁.setTop (mkF m 7 #[.val (.int f), .val (.int l_), .val (.int m_), .val (.int q_), .unset, .unset, .unset, .unset, .unset, .unset, .unset, .unset, .unset, .unset, .unset, .unset, .unset, .unset, .unset] [(.double (FP.i2d ((m_ &&& (1048575 : Int32)) + (1 : Int32))))])) _
    refine X0.ldc2DoubleC hx hown (mvT hZ (wT hw 1 rfl)) (g := (mkF m 7 #[.val (.int f), .val (.int l_), .val (.int m_), .val (.int q_), .unset, .unset, .unset, .unset, .unset, .unset, .unset, .unset, .unset, .unset, .unset, .unset, .unset, .unset, .unset] [(.double (FP.i2d ((m_ &&& (1048575 : Int32)) + (1 : Int32))))])) rfl (hb hby at_7) _ ?_
    show Steps p.tables e below (s₁.setTop (mkF m 10 #[.val (.int f), .val (.int l_), .val (.int m_), .val (.int q_), .unset, .unset, .unset, .unset, .unset, .unset, .unset, .unset, .unset, .unset, .unset, .unset, .unset, .unset, .unset] [(.double (4620693217682128896 : UInt64)), (.double (FP.i2d ((m_ &&& (1048575 : Int32)) + (1 : Int32))))])) _
    refine XS.ddivS X0.here hx rfl (hb hby at_10) rfl (own_mu_dy m_).no rfl ?_
    show Steps p.tables e below (s₁.setTop (mkF m 11 #[.val (.int f), .val (.int l_), .val (.int m_), .val (.int q_), .unset, .unset, .unset, .unset, .unset, .unset, .unset, .unset, .unset, .unset, .unset, .unset, .unset, .unset, .unset] [(.double (FP.ddiv (FP.i2d ((m_ &&& (1048575 : Int32)) + (1 : Int32))) (4620693217682128896 : UInt64)))])) _
    refine XS.dstore X0.here hx rfl (hb hby at_11) rfl (l' := #[.val (.int f), .val (.int l_), .val (.int m_), .val (.int q_), .val (.double (FP.ddiv (FP.i2d ((m_ &&& (1048575 : Int32)) + (1 : Int32))) (4620693217682128896 : UInt64))), .second, .unset, .unset, .unset, .unset, .unset, .unset, .unset, .unset, .unset, .unset, .unset, .unset, .unset]) rfl ?_
    show Steps p.tables e below (s₁.setTop (mkF m 13 #[.val (.int f), .val (.int l_), .val (.int m_), .val (.int q_), .val (.double (FP.ddiv (FP.i2d ((m_ &&& (1048575 : Int32)) + (1 : Int32))) (4620693217682128896 : UInt64))), .second, .unset, .unset, .unset, .unset, .unset, .unset, .unset, .unset, .unset, .unset, .unset, .unset, .unset] [])) _
    exact hh)
  have k2 : own_K p e below (s₁.setTop (mkF m 13 #[.val (.int f), .val (.int l_), .val (.int m_), .val (.int q_), .val (.double (own_mu m_)), .second, .unset, .unset, .unset, .unset, .unset, .unset, .unset, .unset, .unset, .unset, .unset, .unset, .unset] [])) (s₁.setTop (entryFrame m #[(.int f), (.int l_), (.int m_), (.int q_)] maxLocals)) := k1
  have k3 : own_K p e below (s₁.setTop (mkF m 27 #[.val (.int f), .val (.int l_), .val (.int m_), .val (.int q_), .val (.double (own_mu m_)), .second, .val (.int (l_ &&& (2147483647 : Int32))), .val (.double (FP.dadd (FP.i2d (l_ &&& (2147483647 : Int32))) (own_mu m_))), .second, .unset, .unset, .unset, .unset, .unset, .unset, .unset, .unset, .unset, .unset] [])) (s₁.setTop (entryFrame m #[(.int f), (.int l_), (.int m_), (.int q_)] maxLocals)) := fun t hh => k2 t (by
    refine XS.iloadN X0.here hx rfl (hb hby at_13) rfl ?_
    show Steps p.tables e below (s₁.setTop (mkF m 14 #[.val (.int f), .val (.int l_), .val (.int m_), .val (.int q_), .val (.double (own_mu m_)), .second, .unset, .unset, .unset, .unset, .unset, .unset, .unset, .unset, .unset, .unset, .unset, .unset, .unset] [(.int l_)])) _
    refine X0.ldcInt hx hown (mvT hZ (wT hw 2 rfl)) (g := (mkF m 14 #[.val (.int f), .val (.int l_), .val (.int m_), .val (.int q_), .val (.double (own_mu m_)), .second, .unset, .unset, .unset, .unset, .unset, .unset, .unset, .unset, .unset, .unset, .unset, .unset, .unset] [(.int l_)])) rfl (hb hby at_14) _ ?_
    show Steps p.tables e below (s₁.setTop (mkF m 16 #[.val (.int f), .val (.int l_), .val (.int m_), .val (.int q_), .val (.double (own_mu m_)), .second, .unset, .unset, .unset, .unset, .unset, .unset, .unset, .unset, .unset, .unset, .unset, .unset, .unset] [(.int (2147483647 : Int32)), (.int l_)])) _
    refine XS.iand X0.here hx rfl (hb hby at_16) rfl ?_
    show Steps p.tables e below (s₁.setTop (mkF m 17 #[.val (.int f), .val (.int l_), .val (.int m_), .val (.int q_), .val (.double (own_mu m_)), .second, .unset, .unset, .unset, .unset, .unset, .unset, .unset, .unset, .unset, .unset, .unset, .unset, .unset] [(.int (l_ &&& (2147483647 : Int32)))])) _
    refine XS.istore X0.here hx rfl (hb hby at_17) rfl (l' := #[.val (.int f), .val (.int l_), .val (.int m_), .val (.int q_), .val (.double (own_mu m_)), .second, .val (.int (l_ &&& (2147483647 : Int32))), .unset, .unset, .unset, .unset, .unset, .unset, .unset, .unset, .unset, .unset, .unset, .unset]) rfl ?_
    show Steps p.tables e below (s₁.setTop (mkF m 19 #[.val (.int f), .val (.int l_), .val (.int m_), .val (.int q_), .val (.double (own_mu m_)), .second, .val (.int (l_ &&& (2147483647 : Int32))), .unset, .unset, .unset, .unset, .unset, .unset, .unset, .unset, .unset, .unset, .unset, .unset] [])) _
    refine XS.iload X0.here hx rfl (hb hby at_19) rfl ?_
    show Steps p.tables e below (s₁.setTop (mkF m 21 #[.val (.int f), .val (.int l_), .val (.int m_), .val (.int q_), .val (.double (own_mu m_)), .second, .val (.int (l_ &&& (2147483647 : Int32))), .unset, .unset, .unset, .unset, .unset, .unset, .unset, .unset, .unset, .unset, .unset, .unset] [(.int (l_ &&& (2147483647 : Int32)))])) _
    refine XS.i2dS X0.here hx rfl (hb hby at_21) rfl rfl ?_
    show Steps p.tables e below (s₁.setTop (mkF m 22 #[.val (.int f), .val (.int l_), .val (.int m_), .val (.int q_), .val (.double (own_mu m_)), .second, .val (.int (l_ &&& (2147483647 : Int32))), .unset, .unset, .unset, .unset, .unset, .unset, .unset, .unset, .unset, .unset, .unset, .unset] [(.double (FP.i2d (l_ &&& (2147483647 : Int32))))])) _
    refine XS.dload X0.here hx rfl (hb hby at_22) rfl ?_
    show Steps p.tables e below (s₁.setTop (mkF m 24 #[.val (.int f), .val (.int l_), .val (.int m_), .val (.int q_), .val (.double (own_mu m_)), .second, .val (.int (l_ &&& (2147483647 : Int32))), .unset, .unset, .unset, .unset, .unset, .unset, .unset, .unset, .unset, .unset, .unset, .unset] [(.double (own_mu m_)), (.double (FP.i2d (l_ &&& (2147483647 : Int32))))])) _
    refine XS.daddS X0.here hx rfl (hb hby at_24) rfl (own_dd_dy l_ m_).no rfl ?_
    show Steps p.tables e below (s₁.setTop (mkF m 25 #[.val (.int f), .val (.int l_), .val (.int m_), .val (.int q_), .val (.double (own_mu m_)), .second, .val (.int (l_ &&& (2147483647 : Int32))), .unset, .unset, .unset, .unset, .unset, .unset, .unset, .unset, .unset, .unset, .unset, .unset] [(.double (FP.dadd (FP.i2d (l_ &&& (2147483647 : Int32))) (own_mu m_)))])) _
    refine XS.dstore X0.here hx rfl (hb hby at_25) rfl (l' := #[.val (.int f), .val (.int l_), .val (.int m_), .val (.int q_), .val (.double (own_mu m_)), .second, .val (.int (l_ &&& (2147483647 : Int32))), .val (.double (FP.dadd (FP.i2d (l_ &&& (2147483647 : Int32))) (own_mu m_))), .second, .unset, .unset, .unset, .unset, .unset, .unset, .unset, .unset, .unset, .unset]) rfl ?_
    show Steps p.tables e below (s₁.setTop (mkF m 27 #[.val (.int f), .val (.int l_), .val (.int m_), .val (.int q_), .val (.double (own_mu m_)), .second, .val (.int (l_ &&& (2147483647 : Int32))), .val (.double (FP.dadd (FP.i2d (l_ &&& (2147483647 : Int32))) (own_mu m_))), .second, .unset, .unset, .unset, .unset, .unset, .unset, .unset, .unset, .unset, .unset] [])) _
    exact hh)
  have k4 : own_K p e below (s₁.setTop (mkF m 27 #[.val (.int f), .val (.int l_), .val (.int m_), .val (.int q_), .val (.double (own_mu m_)), .second, .val (.int (l_ &&& (2147483647 : Int32))), .val (.double (own_dd l_ m_)), .second, .unset, .unset, .unset, .unset, .unset, .unset, .unset, .unset, .unset, .unset] [])) (s₁.setTop (entryFrame m #[(.int f), (.int l_), (.int m_), (.int q_)] maxLocals)) := k3
  have k5 : own_K p e below (s₁.setTop (mkF m 38 #[.val (.int f), .val (.int l_), .val (.int m_), .val (.int q_), .val (.double (own_mu m_)), .second, .val (.int (l_ &&& (2147483647 : Int32))), .val (.double (own_dd l_ m_)), .second, .val (.double (FP.ddiv (FP.i2d (q_ &&& (65535 : Int32))) (4652218415073722368 : UInt64))), .second, .unset, .unset, .unset, .unset, .unset, .unset, .unset, .unset] [])) (s₁.setTop (entryFrame m #[(.int f), (.int l_), (.int m_), (.int q_)] maxLocals)) := fun t hh => k4 t (by
    refine XS.iloadN X0.here hx rfl (hb hby at_27) rfl ?_
    show Steps p.tables e below (s₁.setTop (mkF m 28 #[.val (.int f), .val (.int l_), .val (.int m_), .val (.int q_), .val (.double (own_mu m_)), .second, .val (.int (l_ &&& (2147483647 : Int32))), .val (.double (own_dd l_ m_)), .second, .unset, .unset, .unset, .unset, .unset, .unset, .unset, .unset, .unset, .unset] [(.int q_)])) _
    refine X0.ldcInt hx hown (mvT hZ (wT hw 3 rfl)) (g := (mkF m 28 #[.val (.int f), .val (.int l_), .val (.int m_), .val (.int q_), .val (.double (own_mu m_)), .second, .val (.int (l_ &&& (2147483647 : Int32))), .val (.double (own_dd l_ m_)), .second, .unset, .unset, .unset, .unset, .unset, .unset, .unset, .unset, .unset, .unset] [(.int q_)])) rfl (hb hby at_28) _ ?_
    show Steps p.tables e below (s₁.setTop (mkF m 30 #[.val (.int f), .val (.int l_), .val (.int m_), .val (.int q_), .val (.double (own_mu m_)), .second, .val (.int (l_ &&& (2147483647 : Int32))), .val (.double (own_dd l_ m_)), .second, .unset, .unset, .unset, .unset, .unset, .unset, .unset, .unset, .unset, .unset] [(.int (65535 : Int32)), (.int q_)])) _
    refine XS.iand X0.here hx rfl (hb hby at_30) rfl ?_
    show Steps p.tables e below (s₁.setTop (mkF m 31 #[.val (.int f), .val (.int l_), .val (.int m_), .val (.int q_), .val (.double (own_mu m_)), .second, .val (.int (l_ &&& (2147483647 : Int32))), .val (.double (own_dd l_ m_)), .second, .unset, .unset, .unset, .unset, .unset, .unset, .unset, .unset, .unset, .unset] [(.int (q_ &&& (65535 : Int32)))])) _
    refine XS.i2dS X0.here hx rfl (hb hby at_31) rfl rfl ?_
    show Steps p.tables e below (s₁.setTop (mkF m 32 #[.val (.int f), .val (.int l_), .val (.int m_), .val (.int q_), .val (.double (own_mu m_)), .second, .val (.int (l_ &&& (2147483647 : Int32))), .val (.double (own_dd l_ m_)), .second, .unset, .unset, .unset, .unset, .unset, .unset, .unset, .unset, .unset, .unset] [(.double (FP.i2d (q_ &&& (65535 : Int32))))])) _
    refine X0.ldc2DoubleC hx hown (mvT hZ (wT hw 4 rfl)) (g := (mkF m 32 #[.val (.int f), .val (.int l_), .val (.int m_), .val (.int q_), .val (.double (own_mu m_)), .second, .val (.int (l_ &&& (2147483647 : Int32))), .val (.double (own_dd l_ m_)), .second, .unset, .unset, .unset, .unset, .unset, .unset, .unset, .unset, .unset, .unset] [(.double (FP.i2d (q_ &&& (65535 : Int32))))])) rfl (hb hby at_32) _ ?_
    show Steps p.tables e below (s₁.setTop (mkF m 35 #[.val (.int f), .val (.int l_), .val (.int m_), .val (.int q_), .val (.double (own_mu m_)), .second, .val (.int (l_ &&& (2147483647 : Int32))), .val (.double (own_dd l_ m_)), .second, .unset, .unset, .unset, .unset, .unset, .unset, .unset, .unset, .unset, .unset] [(.double (4652218415073722368 : UInt64)), (.double (FP.i2d (q_ &&& (65535 : Int32))))])) _
    refine XS.ddivS X0.here hx rfl (hb hby at_35) rfl (own_qq_dy q_).no rfl ?_
    show Steps p.tables e below (s₁.setTop (mkF m 36 #[.val (.int f), .val (.int l_), .val (.int m_), .val (.int q_), .val (.double (own_mu m_)), .second, .val (.int (l_ &&& (2147483647 : Int32))), .val (.double (own_dd l_ m_)), .second, .unset, .unset, .unset, .unset, .unset, .unset, .unset, .unset, .unset, .unset] [(.double (FP.ddiv (FP.i2d (q_ &&& (65535 : Int32))) (4652218415073722368 : UInt64)))])) _
    refine XS.dstore X0.here hx rfl (hb hby at_36) rfl (l' := #[.val (.int f), .val (.int l_), .val (.int m_), .val (.int q_), .val (.double (own_mu m_)), .second, .val (.int (l_ &&& (2147483647 : Int32))), .val (.double (own_dd l_ m_)), .second, .val (.double (FP.ddiv (FP.i2d (q_ &&& (65535 : Int32))) (4652218415073722368 : UInt64))), .second, .unset, .unset, .unset, .unset, .unset, .unset, .unset, .unset]) rfl ?_
    show Steps p.tables e below (s₁.setTop (mkF m 38 #[.val (.int f), .val (.int l_), .val (.int m_), .val (.int q_), .val (.double (own_mu m_)), .second, .val (.int (l_ &&& (2147483647 : Int32))), .val (.double (own_dd l_ m_)), .second, .val (.double (FP.ddiv (FP.i2d (q_ &&& (65535 : Int32))) (4652218415073722368 : UInt64))), .second, .unset, .unset, .unset, .unset, .unset, .unset, .unset, .unset] [])) _
    exact hh)
  have k6 : own_K p e below (s₁.setTop (mkF m 38 #[.val (.int f), .val (.int l_), .val (.int m_), .val (.int q_), .val (.double (own_mu m_)), .second, .val (.int (l_ &&& (2147483647 : Int32))), .val (.double (own_dd l_ m_)), .second, .val (.double (own_qq q_)), .second, .unset, .unset, .unset, .unset, .unset, .unset, .unset, .unset] [])) (s₁.setTop (entryFrame m #[(.int f), (.int l_), (.int m_), (.int q_)] maxLocals)) := k5
  have k7 : own_K p e below (s₁.setTop (mkF m 45 #[.val (.int f), .val (.int l_), .val (.int m_), .val (.int q_), .val (.double (own_mu m_)), .second, .val (.int (l_ &&& (2147483647 : Int32))), .val (.double (own_dd l_ m_)), .second, .val (.double (own_qq q_)), .second, .val (.double (FP.dmul (own_qq q_) (own_dd l_ m_))), .second, .unset, .unset, .unset, .unset, .unset, .unset] [])) (s₁.setTop (entryFrame m #[(.int f), (.int l_), (.int m_), (.int q_)] maxLocals)) := fun t hh => k6 t (by
    refine XS.dload X0.here hx rfl (hb hby at_38) rfl ?_
    show Steps p.tables e below (s₁.setTop (mkF m 40 #[.val (.int f), .val (.int l_), .val (.int m_), .val (.int q_), .val (.double (own_mu m_)), .second, .val (.int (l_ &&& (2147483647 : Int32))), .val (.double (own_dd l_ m_)), .second, .val (.double (own_qq q_)), .second, .unset, .unset, .unset, .unset, .unset, .unset, .unset, .unset] [(.double (own_qq q_))])) _
    refine XS.dload X0.here hx rfl (hb hby at_40) rfl ?_
    show Steps p.tables e below (s₁.setTop (mkF m 42 #[.val (.int f), .val (.int l_), .val (.int m_), .val (.int q_), .val (.double (own_mu m_)), .second, .val (.int (l_ &&& (2147483647 : Int32))), .val (.double (own_dd l_ m_)), .second, .val (.double (own_qq q_)), .second, .unset, .unset, .unset, .unset, .unset, .unset, .unset, .unset] [(.double (own_dd l_ m_)), (.double (own_qq q_))])) _
    refine XS.dmulS X0.here hx rfl (hb hby at_42) rfl (own_nu_dy l_ m_ q_).no rfl ?_
    show Steps p.tables e below (s₁.setTop (mkF m 43 #[.val (.int f), .val (.int l_), .val (.int m_), .val (.int q_), .val (.double (own_mu m_)), .second, .val (.int (l_ &&& (2147483647 : Int32))), .val (.double (own_dd l_ m_)), .second, .val (.double (own_qq q_)), .second, .unset, .unset, .unset, .unset, .unset, .unset, .unset, .unset] [(.double (FP.dmul (own_qq q_) (own_dd l_ m_)))])) _
    refine XS.dstore X0.here hx rfl (hb hby at_43) rfl (l' := #[.val (.int f), .val (.int l_), .val (.int m_), .val (.int q_), .val (.double (own_mu m_)), .second, .val (.int (l_ &&& (2147483647 : Int32))), .val (.double (own_dd l_ m_)), .second, .val (.double (own_qq q_)), .second, .val (.double (FP.dmul (own_qq q_) (own_dd l_ m_))), .second, .unset, .unset, .unset, .unset, .unset, .unset]) rfl ?_
    show Steps p.tables e below (s₁.setTop (mkF m 45 #[.val (.int f), .val (.int l_), .val (.int m_), .val (.int q_), .val (.double (own_mu m_)), .second, .val (.int (l_ &&& (2147483647 : Int32))), .val (.double (own_dd l_ m_)), .second, .val (.double (own_qq q_)), .second, .val (.double (FP.dmul (own_qq q_) (own_dd l_ m_))), .second, .unset, .unset, .unset, .unset, .unset, .unset] [])) _
    exact hh)
  have k8 : own_K p e below (s₁.setTop (mkF m 45 #[.val (.int f), .val (.int l_), .val (.int m_), .val (.int q_), .val (.double (own_mu m_)), .second, .val (.int (l_ &&& (2147483647 : Int32))), .val (.double (own_dd l_ m_)), .second, .val (.double (own_qq q_)), .second, .val (.double (own_nu l_ m_ q_)), .second, .unset, .unset, .unset, .unset, .unset, .unset] [])) (s₁.setTop (entryFrame m #[(.int f), (.int l_), (.int m_), (.int q_)] maxLocals)) := k7
  have k9 : own_K p e below (s₁.setTop (mkF m 53 #[.val (.int f), .val (.int l_), .val (.int m_), .val (.int q_), .val (.double (own_mu m_)), .second, .val (.int (l_ &&& (2147483647 : Int32))), .val (.double (own_dd l_ m_)), .second, .val (.double (own_qq q_)), .second, .val (.double (own_nu l_ m_ q_)), .second, .unset, .unset, .unset, .unset, .unset, .unset] [(.long (FP.d2l (own_nu l_ m_ q_))), (.long ((f &&& (2147483647 : Int32)).toInt64))])) (s₁.setTop (entryFrame m #[(.int f), (.int l_), (.int m_), (.int q_)] maxLocals)) := fun t hh => k8 t (by
    refine XS.iloadN X0.here hx rfl (hb hby at_45) rfl ?_
    show Steps p.tables e below (s₁.setTop (mkF m 46 #[.val (.int f), .val (.int l_), .val (.int m_), .val (.int q_), .val (.double (own_mu m_)), .second, .val (.int (l_ &&& (2147483647 : Int32))), .val (.double (own_dd l_ m_)), .second, .val (.double (own_qq q_)), .second, .val (.double (own_nu l_ m_ q_)), .second, .unset, .unset, .unset, .unset, .unset, .unset] [(.int f)])) _
    refine X0.ldcInt hx hown (mvT hZ (wT hw 2 rfl)) (g := (mkF m 46 #[.val (.int f), .val (.int l_), .val (.int m_), .val (.int q_), .val (.double (own_mu m_)), .second, .val (.int (l_ &&& (2147483647 : Int32))), .val (.double (own_dd l_ m_)), .second, .val (.double (own_qq q_)), .second, .val (.double (own_nu l_ m_ q_)), .second, .unset, .unset, .unset, .unset, .unset, .unset] [(.int f)])) rfl (hb hby at_46) _ ?_
    show Steps p.tables e below (s₁.setTop (mkF m 48 #[.val (.int f), .val (.int l_), .val (.int m_), .val (.int q_), .val (.double (own_mu m_)), .second, .val (.int (l_ &&& (2147483647 : Int32))), .val (.double (own_dd l_ m_)), .second, .val (.double (own_qq q_)), .second, .val (.double (own_nu l_ m_ q_)), .second, .unset, .unset, .unset, .unset, .unset, .unset] [(.int (2147483647 : Int32)), (.int f)])) _
    refine XS.iand X0.here hx rfl (hb hby at_48) rfl ?_
    show Steps p.tables e below (s₁.setTop (mkF m 49 #[.val (.int f), .val (.int l_), .val (.int m_), .val (.int q_), .val (.double (own_mu m_)), .second, .val (.int (l_ &&& (2147483647 : Int32))), .val (.double (own_dd l_ m_)), .second, .val (.double (own_qq q_)), .second, .val (.double (own_nu l_ m_ q_)), .second, .unset, .unset, .unset, .unset, .unset, .unset] [(.int (f &&& (2147483647 : Int32)))])) _
    refine XS.i2l X0.here hx rfl (hb hby at_49) rfl ?_
    show Steps p.tables e below (s₁.setTop (mkF m 50 #[.val (.int f), .val (.int l_), .val (.int m_), .val (.int q_), .val (.double (own_mu m_)), .second, .val (.int (l_ &&& (2147483647 : Int32))), .val (.double (own_dd l_ m_)), .second, .val (.double (own_qq q_)), .second, .val (.double (own_nu l_ m_ q_)), .second, .unset, .unset, .unset, .unset, .unset, .unset] [(.long ((f &&& (2147483647 : Int32)).toInt64))])) _
    refine XS.dload X0.here hx rfl (hb hby at_50) rfl ?_
    show Steps p.tables e below (s₁.setTop (mkF m 52 #[.val (.int f), .val (.int l_), .val (.int m_), .val (.int q_), .val (.double (own_mu m_)), .second, .val (.int (l_ &&& (2147483647 : Int32))), .val (.double (own_dd l_ m_)), .second, .val (.double (own_qq q_)), .second, .val (.double (own_nu l_ m_ q_)), .second, .unset, .unset, .unset, .unset, .unset, .unset] [(.double (own_nu l_ m_ q_)), (.long ((f &&& (2147483647 : Int32)).toInt64))])) _
    refine XS.d2lS X0.here hx rfl (hb hby at_52) rfl rfl ?_
    show Steps p.tables e below (s₁.setTop (mkF m 53 #[.val (.int f), .val (.int l_), .val (.int m_), .val (.int q_), .val (.double (own_mu m_)), .second, .val (.int (l_ &&& (2147483647 : Int32))), .val (.double (own_dd l_ m_)), .second, .val (.double (own_qq q_)), .second, .val (.double (own_nu l_ m_ q_)), .second, .unset, .unset, .unset, .unset, .unset, .unset] [(.long (FP.d2l (own_nu l_ m_ q_))), (.long ((f &&& (2147483647 : Int32)).toInt64))])) _
    exact hh)
  obtain ⟨_, _, ⟨T34, L35, k_36, n_37⟩, -, X38, ⟨Lc39, hQ40, l_41, y_42, z_43⟩, st44⟩ := Jvm.LawKit.callS X0 hx (y := (⟨"java/lang/Math", "min", "(JJ)J"⟩ : MethodName)) hown (mvT hZ (wT hw 5 rfl)) (mvT hZ (wT hw 6 rfl)) (mvT hZ (wT hw 7 rfl)) (mvT hZ (wT hw 8 rfl)) (by decide) (backOf (W := 0) (rmM l Z a0 hw [] ((f &&& (2147483647 : Int32)).toInt64) (FP.d2l (own_nu l_ m_ q_)) h0 n0 Z0) hZ (wT hw 8 rfl) (wT hw 7 rfl) (by decide) (by decide)) (g := (mkF m 53 #[.val (.int f), .val (.int l_), .val (.int m_), .val (.int q_), .val (.double (own_mu m_)), .second, .val (.int (l_ &&& (2147483647 : Int32))), .val (.double (own_dd l_ m_)), .second, .val (.double (own_qq q_)), .second, .val (.double (own_nu l_ m_ q_)), .second, .unset, .unset, .unset, .unset, .unset, .unset] [(.long (FP.d2l (own_nu l_ m_ q_))), (.long ((f &&& (2147483647 : Int32)).toInt64))])) rfl (by rw [hml]; rfl) (argsL := [(.long ((f &&& (2147483647 : Int32)).toInt64)), (.long (FP.d2l (own_nu l_ m_ q_)))]) (rest := []) (lenOf own_h5 rfl) rfl (by show 2 * 0 + _ ≤ _; exact Nat.le_of_eq rfl) (hb hby at_53) (fun _ _ => ⟨rfl, e0, (by decide : 0 + 0 ≤ _), (by decide : 0 + 0 ≤ _)⟩)
  dsimp only [Pt.U, Pt.locs, Pt.cells, Pt.slots] at X38 l_41 y_42 z_43 st44 hQ40
  subst l_41 y_42 z_43
  obtain ⟨rfl, N45, e46⟩ := hQ40
  have N47 := Fr.app N0 N45
  have k10 : own_K p e below (T34.setTop (mkF m 56 #[.val (.int f), .val (.int l_), .val (.int m_), .val (.int q_), .val (.double (own_mu m_)), .second, .val (.int (l_ &&& (2147483647 : Int32))), .val (.double (own_dd l_ m_)), .second, .val (.double (own_qq q_)), .second, .val (.double (own_nu l_ m_ q_)), .second, .unset, .unset, .unset, .unset, .unset, .unset] [(.long (own_min ((f &&& (2147483647 : Int32)).toInt64) (FP.d2l (own_nu l_ m_ q_))))])) (s₁.setTop (entryFrame m #[(.int f), (.int l_), (.int m_), (.int q_)] maxLocals)) := fun t hh => k9 t (st44 t hh)
  have k11 : own_K p e below (T34.setTop (mkF m 59 #[.val (.int f), .val (.int l_), .val (.int m_), .val (.int q_), .val (.double (own_mu m_)), .second, .val (.int (l_ &&& (2147483647 : Int32))), .val (.double (own_dd l_ m_)), .second, .val (.double (own_qq q_)), .second, .val (.double (own_nu l_ m_ q_)), .second, .val (.int ((own_min ((f &&& (2147483647 : Int32)).toInt64) (FP.d2l (own_nu l_ m_ q_))).toInt32)), .unset, .unset, .unset, .unset, .unset] [])) (s₁.setTop (entryFrame m #[(.int f), (.int l_), (.int m_), (.int q_)] maxLocals)) := fun t hh => k10 t (by
    refine XS.l2i X38.here hx rfl (hb hby at_56) rfl ?_
    show Steps p.tables e below (T34.setTop (mkF m 57 #[.val (.int f), .val (.int l_), .val (.int m_), .val (.int q_), .val (.double (own_mu m_)), .second, .val (.int (l_ &&& (2147483647 : Int32))), .val (.double (own_dd l_ m_)), .second, .val (.double (own_qq q_)), .second, .val (.double (own_nu l_ m_ q_)), .second, .unset, .unset, .unset, .unset, .unset, .unset] [(.int ((own_min ((f &&& (2147483647 : Int32)).toInt64) (FP.d2l (own_nu l_ m_ q_))).toInt32))])) _
    refine XS.istore X38.here hx rfl (hb hby at_57) rfl (l' := #[.val (.int f), .val (.int l_), .val (.int m_), .val (.int q_), .val (.double (own_mu m_)), .second, .val (.int (l_ &&& (2147483647 : Int32))), .val (.double (own_dd l_ m_)), .second, .val (.double (own_qq q_)), .second, .val (.double (own_nu l_ m_ q_)), .second, .val (.int ((own_min ((f &&& (2147483647 : Int32)).toInt64) (FP.d2l (own_nu l_ m_ q_))).toInt32)), .unset, .unset, .unset, .unset, .unset]) rfl ?_
    show Steps p.tables e below (T34.setTop (mkF m 59 #[.val (.int f), .val (.int l_), .val (.int m_), .val (.int q_), .val (.double (own_mu m_)), .second, .val (.int (l_ &&& (2147483647 : Int32))), .val (.double (own_dd l_ m_)), .second, .val (.double (own_qq q_)), .second, .val (.double (own_nu l_ m_ q_)), .second, .val (.int ((own_min ((f &&& (2147483647 : Int32)).toInt64) (FP.d2l (own_nu l_ m_ q_))).toInt32)), .unset, .unset, .unset, .unset, .unset] [])) _
    exact hh)
  have k12 : own_K p e below (T34.setTop (mkF m 59 #[.val (.int f), .val (.int l_), .val (.int m_), .val (.int q_), .val (.double (own_mu m_)), .second, .val (.int (l_ &&& (2147483647 : Int32))), .val (.double (own_dd l_ m_)), .second, .val (.double (own_qq q_)), .second, .val (.double (own_nu l_ m_ q_)), .second, .val (.int (own_fr f l_ m_ q_)), .unset, .unset, .unset, .unset, .unset] [])) (s₁.setTop (entryFrame m #[(.int f), (.int l_), (.int m_), (.int q_)] maxLocals)) := k11
  have k13 : own_K p e below (T34.setTop (mkF m 67 #[.val (.int f), .val (.int l_), .val (.int m_), .val (.int q_), .val (.double (own_mu m_)), .second, .val (.int (l_ &&& (2147483647 : Int32))), .val (.double (own_dd l_ m_)), .second, .val (.double (own_qq q_)), .second, .val (.double (own_nu l_ m_ q_)), .second, .val (.int (own_fr f l_ m_ q_)), .val (.double (FP.dsub (own_nu l_ m_ q_) (FP.i2d (own_fr f l_ m_ q_)))), .second, .unset, .unset, .unset] [])) (s₁.setTop (entryFrame m #[(.int f), (.int l_), (.int m_), (.int q_)] maxLocals)) := fun t hh => k12 t (by
    refine XS.dload X38.here hx rfl (hb hby at_59) rfl ?_
    show Steps p.tables e below (T34.setTop (mkF m 61 #[.val (.int f), .val (.int l_), .val (.int m_), .val (.int q_), .val (.double (own_mu m_)), .second, .val (.int (l_ &&& (2147483647 : Int32))), .val (.double (own_dd l_ m_)), .second, .val (.double (own_qq q_)), .second, .val (.double (own_nu l_ m_ q_)), .second, .val (.int (own_fr f l_ m_ q_)), .unset, .unset, .unset, .unset, .unset] [(.double (own_nu l_ m_ q_))])) _
    refine XS.iload X38.here hx rfl (hb hby at_61) rfl ?_
    show Steps p.tables e below (T34.setTop (mkF m 63 #[.val (.int f), .val (.int l_), .val (.int m_), .val (.int q_), .val (.double (own_mu m_)), .second, .val (.int (l_ &&& (2147483647 : Int32))), .val (.double (own_dd l_ m_)), .second, .val (.double (own_qq q_)), .second, .val (.double (own_nu l_ m_ q_)), .second, .val (.int (own_fr f l_ m_ q_)), .unset, .unset, .unset, .unset, .unset] [(.int (own_fr f l_ m_ q_)), (.double (own_nu l_ m_ q_))])) _
    refine XS.i2dS X38.here hx rfl (hb hby at_63) rfl rfl ?_
    show Steps p.tables e below (T34.setTop (mkF m 64 #[.val (.int f), .val (.int l_), .val (.int m_), .val (.int q_), .val (.double (own_mu m_)), .second, .val (.int (l_ &&& (2147483647 : Int32))), .val (.double (own_dd l_ m_)), .second, .val (.double (own_qq q_)), .second, .val (.double (own_nu l_ m_ q_)), .second, .val (.int (own_fr f l_ m_ q_)), .unset, .unset, .unset, .unset, .unset] [(.double (FP.i2d (own_fr f l_ m_ q_))), (.double (own_nu l_ m_ q_))])) _
    refine XS.dsubS X38.here hx rfl (hb hby at_64) rfl (own_bg_dy f l_ m_ q_).no rfl ?_
    show Steps p.tables e below (T34.setTop (mkF m 65 #[.val (.int f), .val (.int l_), .val (.int m_), .val (.int q_), .val (.double (own_mu m_)), .second, .val (.int (l_ &&& (2147483647 : Int32))), .val (.double (own_dd l_ m_)), .second, .val (.double (own_qq q_)), .second, .val (.double (own_nu l_ m_ q_)), .second, .val (.int (own_fr f l_ m_ q_)), .unset, .unset, .unset, .unset, .unset] [(.double (FP.dsub (own_nu l_ m_ q_) (FP.i2d (own_fr f l_ m_ q_))))])) _
    refine XS.dstore X38.here hx rfl (hb hby at_65) rfl (l' := #[.val (.int f), .val (.int l_), .val (.int m_), .val (.int q_), .val (.double (own_mu m_)), .second, .val (.int (l_ &&& (2147483647 : Int32))), .val (.double (own_dd l_ m_)), .second, .val (.double (own_qq q_)), .second, .val (.double (own_nu l_ m_ q_)), .second, .val (.int (own_fr f l_ m_ q_)), .val (.double (FP.dsub (own_nu l_ m_ q_) (FP.i2d (own_fr f l_ m_ q_)))), .second, .unset, .unset, .unset]) rfl ?_
    show Steps p.tables e below (T34.setTop (mkF m 67 #[.val (.int f), .val (.int l_), .val (.int m_), .val (.int q_), .val (.double (own_mu m_)), .second, .val (.int (l_ &&& (2147483647 : Int32))), .val (.double (own_dd l_ m_)), .second, .val (.double (own_qq q_)), .second, .val (.double (own_nu l_ m_ q_)), .second, .val (.int (own_fr f l_ m_ q_)), .val (.double (FP.dsub (own_nu l_ m_ q_) (FP.i2d (own_fr f l_ m_ q_)))), .second, .unset, .unset, .unset] [])) _
    exact hh)
  have k14 : own_K p e below (T34.setTop (mkF m 67 #[.val (.int f), .val (.int l_), .val (.int m_), .val (.int q_), .val (.double (own_mu m_)), .second, .val (.int (l_ &&& (2147483647 : Int32))), .val (.double (own_dd l_ m_)), .second, .val (.double (own_qq q_)), .second, .val (.double (own_nu l_ m_ q_)), .second, .val (.int (own_fr f l_ m_ q_)), .val (.double (own_bg f l_ m_ q_)), .second, .unset, .unset, .unset] [])) (s₁.setTop (entryFrame m #[(.int f), (.int l_), (.int m_), (.int q_)] maxLocals)) := k13
  obtain ⟨T48, h49, X50, e51, E52, A53, D54, U56, st55⟩ := newO X38 hx hZ hown (wT hw 9 rfl) (wT hw 10 rfl) (wT hw 11 rfl) e46 (g := (mkF m 67 #[.val (.int f), .val (.int l_), .val (.int m_), .val (.int q_), .val (.double (own_mu m_)), .second, .val (.int (l_ &&& (2147483647 : Int32))), .val (.double (own_dd l_ m_)), .second, .val (.double (own_qq q_)), .second, .val (.double (own_nu l_ m_ q_)), .second, .val (.int (own_fr f l_ m_ q_)), .val (.double (own_bg f l_ m_ q_)), .second, .unset, .unset, .unset] [])) rfl (hb hby at_67) (by decide) (by decide)
  obtain ⟨a57, g58⟩ : ∃ z, z = h0.size := ⟨_, rfl⟩
  rw [← g58] at A53 D54 U56 st55
  have G59 : n0 ≤ a57 := Nat.le_trans Z0 (Nat.le_of_eq g58.symm)
  have Z60 : n0 ≤ h49.size := Nat.le_trans Z0 E52.1
  have F61 : Fld Z h49 a57 "com/example/geirfa/geirfa/retrieval/Smoothing$Dirichlet" "mu" "D" (.double (0 : UInt64)) := D54 (Or.inr (wT hw 25 rfl)) (ty := .double) (by decide)
  have k15 : own_K p e below (T48.setTop (mkF m 70 #[.val (.int f), .val (.int l_), .val (.int m_), .val (.int q_), .val (.double (own_mu m_)), .second, .val (.int (l_ &&& (2147483647 : Int32))), .val (.double (own_dd l_ m_)), .second, .val (.double (own_qq q_)), .second, .val (.double (own_nu l_ m_ q_)), .second, .val (.int (own_fr f l_ m_ q_)), .val (.double (own_bg f l_ m_ q_)), .second, .unset, .unset, .unset] [(.ref a57)])) (s₁.setTop (entryFrame m #[(.int f), (.int l_), (.int m_), (.int q_)] maxLocals)) := fun t hh => k14 t (st55 t hh)
  have k16 : own_K p e below (T48.setTop (mkF m 73 #[.val (.int f), .val (.int l_), .val (.int m_), .val (.int q_), .val (.double (own_mu m_)), .second, .val (.int (l_ &&& (2147483647 : Int32))), .val (.double (own_dd l_ m_)), .second, .val (.double (own_qq q_)), .second, .val (.double (own_nu l_ m_ q_)), .second, .val (.int (own_fr f l_ m_ q_)), .val (.double (own_bg f l_ m_ q_)), .second, .unset, .unset, .unset] [(.double (own_mu m_)), (.ref a57), (.ref a57)])) (s₁.setTop (entryFrame m #[(.int f), (.int l_), (.int m_), (.int q_)] maxLocals)) := fun t hh => k15 t (by
    refine XS.dup X50.here hx rfl (hb hby at_70) rfl rfl ?_
    show Steps p.tables e below (T48.setTop (mkF m 71 #[.val (.int f), .val (.int l_), .val (.int m_), .val (.int q_), .val (.double (own_mu m_)), .second, .val (.int (l_ &&& (2147483647 : Int32))), .val (.double (own_dd l_ m_)), .second, .val (.double (own_qq q_)), .second, .val (.double (own_nu l_ m_ q_)), .second, .val (.int (own_fr f l_ m_ q_)), .val (.double (own_bg f l_ m_ q_)), .second, .unset, .unset, .unset] [(.ref a57), (.ref a57)])) _
    refine XS.dload X50.here hx rfl (hb hby at_71) rfl ?_
    show Steps p.tables e below (T48.setTop (mkF m 73 #[.val (.int f), .val (.int l_), .val (.int m_), .val (.int q_), .val (.double (own_mu m_)), .second, .val (.int (l_ &&& (2147483647 : Int32))), .val (.double (own_dd l_ m_)), .second, .val (.double (own_qq q_)), .second, .val (.double (own_nu l_ m_ q_)), .second, .val (.int (own_fr f l_ m_ q_)), .val (.double (own_bg f l_ m_ q_)), .second, .unset, .unset, .unset] [(.double (own_mu m_)), (.ref a57), (.ref a57)])) _
    exact hh)
  obtain ⟨_, _, ⟨T62, L63, k_64, n_65⟩, -, X66, ⟨Lc67, hQ68, l_69, y_70, z_71⟩, st72⟩ := X50.specialBack hx (y := (⟨"com/example/geirfa/geirfa/retrieval/Smoothing$Dirichlet", "<init>", "(D)V"⟩ : MethodName)) rfl hown (mvT hZ (wT hw 12 rfl)) (mvT hZ (wT hw 13 rfl)) (mvT hZ (wT hw 14 rfl)) (by decide) (backOf (W := 1) (rmC l Z a0 hw [] a57 (own_mu m_) h49 n0 Z60 F61 A53 G59 (own_mu_gt m_) (own_mu_lt m_)) hZ (wT hw 14 rfl) (wT hw 11 rfl) (by decide) (by decide)) (g := (mkF m 73 #[.val (.int f), .val (.int l_), .val (.int m_), .val (.int q_), .val (.double (own_mu m_)), .second, .val (.int (l_ &&& (2147483647 : Int32))), .val (.double (own_dd l_ m_)), .second, .val (.double (own_qq q_)), .second, .val (.double (own_nu l_ m_ q_)), .second, .val (.int (own_fr f l_ m_ q_)), .val (.double (own_bg f l_ m_ q_)), .second, .unset, .unset, .unset] [(.double (own_mu m_)), (.ref a57), (.ref a57)])) rfl (by rw [hml]; rfl) (Steps.refl _) (a := a57) (argsL := [(.double (own_mu m_))]) (rest := [(.ref a57)]) (lenOf own_h6 rfl) rfl (by show 2 * 0 + _ ≤ _; exact Nat.le_of_eq rfl) (hb hby at_73) (fun _ _ => ⟨rfl, e51, (by decide : 1 + 0 ≤ _), (by decide : 1 + 0 ≤ _)⟩)
  dsimp only [Pt.U, Pt.locs, Pt.cells, Pt.slots] at X66 l_69 y_70 z_71 st72 hQ68
  subst l_69 y_70 z_71
  obtain ⟨rfl, N73, K74, E75, F76⟩ := hQ68
  have N77 := Fr.app N47 N73
  have Z78 : n0 ≤ T62.heap.size := Nat.le_trans Z60 K74.1
  have k17 : own_K p e below (T62.setTop (mkF m 76 #[.val (.int f), .val (.int l_), .val (.int m_), .val (.int q_), .val (.double (own_mu m_)), .second, .val (.int (l_ &&& (2147483647 : Int32))), .val (.double (own_dd l_ m_)), .second, .val (.double (own_qq q_)), .second, .val (.double (own_nu l_ m_ q_)), .second, .val (.int (own_fr f l_ m_ q_)), .val (.double (own_bg f l_ m_ q_)), .second, .unset, .unset, .unset] [(.ref a57)])) (s₁.setTop (entryFrame m #[(.int f), (.int l_), (.int m_), (.int q_)] maxLocals)) := fun t hh => k16 t (st72.trans hh)
  have k18 : own_K p e below (T62.setTop (mkF m 86 #[.val (.int f), .val (.int l_), .val (.int m_), .val (.int q_), .val (.double (own_mu m_)), .second, .val (.int (l_ &&& (2147483647 : Int32))), .val (.double (own_dd l_ m_)), .second, .val (.double (own_qq q_)), .second, .val (.double (own_nu l_ m_ q_)), .second, .val (.int (own_fr f l_ m_ q_)), .val (.double (own_bg f l_ m_ q_)), .second, .val (.ref a57), .unset, .unset] [(.double (own_bg f l_ m_ q_)), (.int (l_ &&& (2147483647 : Int32))), (.int (own_fr f l_ m_ q_)), (.ref a57)])) (s₁.setTop (entryFrame m #[(.int f), (.int l_), (.int m_), (.int q_)] maxLocals)) := fun t hh => k17 t (by
    refine XS.astore X66.here hx rfl (hb hby at_76) rfl rfl (l' := #[.val (.int f), .val (.int l_), .val (.int m_), .val (.int q_), .val (.double (own_mu m_)), .second, .val (.int (l_ &&& (2147483647 : Int32))), .val (.double (own_dd l_ m_)), .second, .val (.double (own_qq q_)), .second, .val (.double (own_nu l_ m_ q_)), .second, .val (.int (own_fr f l_ m_ q_)), .val (.double (own_bg f l_ m_ q_)), .second, .val (.ref a57), .unset, .unset]) rfl ?_
    show Steps p.tables e below (T62.setTop (mkF m 78 #[.val (.int f), .val (.int l_), .val (.int m_), .val (.int q_), .val (.double (own_mu m_)), .second, .val (.int (l_ &&& (2147483647 : Int32))), .val (.double (own_dd l_ m_)), .second, .val (.double (own_qq q_)), .second, .val (.double (own_nu l_ m_ q_)), .second, .val (.int (own_fr f l_ m_ q_)), .val (.double (own_bg f l_ m_ q_)), .second, .val (.ref a57), .unset, .unset] [])) _
    refine XS.aload X66.here hx rfl (hb hby at_78) rfl rfl ?_
    show Steps p.tables e below (T62.setTop (mkF m 80 #[.val (.int f), .val (.int l_), .val (.int m_), .val (.int q_), .val (.double (own_mu m_)), .second, .val (.int (l_ &&& (2147483647 : Int32))), .val (.double (own_dd l_ m_)), .second, .val (.double (own_qq q_)), .second, .val (.double (own_nu l_ m_ q_)), .second, .val (.int (own_fr f l_ m_ q_)), .val (.double (own_bg f l_ m_ q_)), .second, .val (.ref a57), .unset, .unset] [(.ref a57)])) _
    refine XS.iload X66.here hx rfl (hb hby at_80) rfl ?_
    show Steps p.tables e below (T62.setTop (mkF m 82 #[.val (.int f), .val (.int l_), .val (.int m_), .val (.int q_), .val (.double (own_mu m_)), .second, .val (.int (l_ &&& (2147483647 : Int32))), .val (.double (own_dd l_ m_)), .second, .val (.double (own_qq q_)), .second, .val (.double (own_nu l_ m_ q_)), .second, .val (.int (own_fr f l_ m_ q_)), .val (.double (own_bg f l_ m_ q_)), .second, .val (.ref a57), .unset, .unset] [(.int (own_fr f l_ m_ q_)), (.ref a57)])) _
    refine XS.iload X66.here hx rfl (hb hby at_82) rfl ?_
    show Steps p.tables e below (T62.setTop (mkF m 84 #[.val (.int f), .val (.int l_), .val (.int m_), .val (.int q_), .val (.double (own_mu m_)), .second, .val (.int (l_ &&& (2147483647 : Int32))), .val (.double (own_dd l_ m_)), .second, .val (.double (own_qq q_)), .second, .val (.double (own_nu l_ m_ q_)), .second, .val (.int (own_fr f l_ m_ q_)), .val (.double (own_bg f l_ m_ q_)), .second, .val (.ref a57), .unset, .unset] [(.int (l_ &&& (2147483647 : Int32))), (.int (own_fr f l_ m_ q_)), (.ref a57)])) _
    refine XS.dload X66.here hx rfl (hb hby at_84) rfl ?_
    show Steps p.tables e below (T62.setTop (mkF m 86 #[.val (.int f), .val (.int l_), .val (.int m_), .val (.int q_), .val (.double (own_mu m_)), .second, .val (.int (l_ &&& (2147483647 : Int32))), .val (.double (own_dd l_ m_)), .second, .val (.double (own_qq q_)), .second, .val (.double (own_nu l_ m_ q_)), .second, .val (.int (own_fr f l_ m_ q_)), .val (.double (own_bg f l_ m_ q_)), .second, .val (.ref a57), .unset, .unset] [(.double (own_bg f l_ m_ q_)), (.int (l_ &&& (2147483647 : Int32))), (.int (own_fr f l_ m_ q_)), (.ref a57)])) _
    exact hh)
  obtain ⟨cq90, kq91, qa92, qb93, qc94⟩ := isOf hZ rfl E75
  obtain ⟨_, _, ⟨T79, L80, k_81, n_82⟩, -, X83, ⟨Lc84, hQ85, l_86, y_87, z_88⟩, st89⟩ := X66.virtualBack hx (y := (⟨"com/example/geirfa/geirfa/retrieval/Smoothing$Dirichlet", "probability", "(IID)D"⟩ : MethodName)) (z := (⟨"com/example/geirfa/geirfa/retrieval/Smoothing$Dirichlet", "probability", "(IID)D"⟩ : MethodName)) hown (mvT hZ (wT hw 26 rfl)) (mvT hZ (wT hw 27 rfl)) (notFace_of_selects (args := #[]) (mvT hZ (wT hw 29 rfl))) (mvT hZ (wT hw 29 rfl)) (mvT hZ (wT hw 28 rfl)) (by decide) (backOf (W := 0) (rmB l Z a0 hw [] a57 (own_fr f l_ m_ q_) (l_ &&& (2147483647 : Int32)) (own_bg f l_ m_ q_) (own_mu m_) T62.heap n0 Z78 F76 (own_sum_dy f l_ m_ q_).no (own_dd_dy l_ m_).no (own_pr_dy f l_ m_ q_).no) hZ (wT hw 30 rfl) (wT hw 11 rfl) (by decide) (by decide)) qa92 qc94 (g := (mkF m 86 #[.val (.int f), .val (.int l_), .val (.int m_), .val (.int q_), .val (.double (own_mu m_)), .second, .val (.int (l_ &&& (2147483647 : Int32))), .val (.double (own_dd l_ m_)), .second, .val (.double (own_qq q_)), .second, .val (.double (own_nu l_ m_ q_)), .second, .val (.int (own_fr f l_ m_ q_)), .val (.double (own_bg f l_ m_ q_)), .second, .val (.ref a57), .unset, .unset] [(.double (own_bg f l_ m_ q_)), (.int (l_ &&& (2147483647 : Int32))), (.int (own_fr f l_ m_ q_)), (.ref a57)])) rfl (by rw [hml]; rfl) (Steps.refl _) (argsL := [(.int (own_fr f l_ m_ q_)), (.int (l_ &&& (2147483647 : Int32))), (.double (own_bg f l_ m_ q_))]) (rest := []) (lenOf own_h8 rfl) rfl (by show 2 * 0 + _ ≤ _; exact Nat.le_of_eq rfl) (hb hby at_86) (fun _ _ => ⟨rfl, rfl, (by decide : 1 + 0 ≤ _), (by decide : 1 + 0 ≤ _)⟩)
  dsimp only [Pt.U, Pt.locs, Pt.cells, Pt.slots] at X83 l_86 y_87 z_88 st89 hQ85
  subst l_86 y_87 z_88
  obtain ⟨rfl, N95, e96⟩ := hQ85
  have N97 := Fr.app N77 N95
  have k19 : own_K p e below (T79.setTop (mkF m 89 #[.val (.int f), .val (.int l_), .val (.int m_), .val (.int q_), .val (.double (own_mu m_)), .second, .val (.int (l_ &&& (2147483647 : Int32))), .val (.double (own_dd l_ m_)), .second, .val (.double (own_qq q_)), .second, .val (.double (own_nu l_ m_ q_)), .second, .val (.int (own_fr f l_ m_ q_)), .val (.double (own_bg f l_ m_ q_)), .second, .val (.ref a57), .unset, .unset] [(.double (own_pr f l_ m_ q_))])) (s₁.setTop (entryFrame m #[(.int f), (.int l_), (.int m_), (.int q_)] maxLocals)) := fun t hh => k18 t (st89.trans hh)
  have k20 : own_K p e below (T79.setTop (mkF m 111 #[.val (.int f), .val (.int l_), .val (.int m_), .val (.int q_), .val (.double (own_mu m_)), .second, .val (.int (l_ &&& (2147483647 : Int32))), .val (.double (own_dd l_ m_)), .second, .val (.double (own_qq q_)), .second, .val (.double (own_nu l_ m_ q_)), .second, .val (.int (own_fr f l_ m_ q_)), .val (.double (own_bg f l_ m_ q_)), .second, .val (.ref a57), .val (.double (own_pr f l_ m_ q_)), .second] [(.int (1 : Int32))])) (s₁.setTop (entryFrame m #[(.int f), (.int l_), (.int m_), (.int q_)] maxLocals)) := fun t hh => k19 t (by
    refine XS.dstore X83.here hx rfl (hb hby at_89) rfl (l' := #[.val (.int f), .val (.int l_), .val (.int m_), .val (.int q_), .val (.double (own_mu m_)), .second, .val (.int (l_ &&& (2147483647 : Int32))), .val (.double (own_dd l_ m_)), .second, .val (.double (own_qq q_)), .second, .val (.double (own_nu l_ m_ q_)), .second, .val (.int (own_fr f l_ m_ q_)), .val (.double (own_bg f l_ m_ q_)), .second, .val (.ref a57), .val (.double (own_pr f l_ m_ q_)), .second]) rfl ?_
    show Steps p.tables e below (T79.setTop (mkF m 91 #[.val (.int f), .val (.int l_), .val (.int m_), .val (.int q_), .val (.double (own_mu m_)), .second, .val (.int (l_ &&& (2147483647 : Int32))), .val (.double (own_dd l_ m_)), .second, .val (.double (own_qq q_)), .second, .val (.double (own_nu l_ m_ q_)), .second, .val (.int (own_fr f l_ m_ q_)), .val (.double (own_bg f l_ m_ q_)), .second, .val (.ref a57), .val (.double (own_pr f l_ m_ q_)), .second] [])) _
    refine XS.dload X83.here hx rfl (hb hby at_91) rfl ?_
    show Steps p.tables e below (T79.setTop (mkF m 93 #[.val (.int f), .val (.int l_), .val (.int m_), .val (.int q_), .val (.double (own_mu m_)), .second, .val (.int (l_ &&& (2147483647 : Int32))), .val (.double (own_dd l_ m_)), .second, .val (.double (own_qq q_)), .second, .val (.double (own_nu l_ m_ q_)), .second, .val (.int (own_fr f l_ m_ q_)), .val (.double (own_bg f l_ m_ q_)), .second, .val (.ref a57), .val (.double (own_pr f l_ m_ q_)), .second] [(.double (own_bg f l_ m_ q_))])) _
    refine XS.dconst0 X83.here hx rfl (hb hby at_93) rfl ?_
    show Steps p.tables e below (T79.setTop (mkF m 94 #[.val (.int f), .val (.int l_), .val (.int m_), .val (.int q_), .val (.double (own_mu m_)), .second, .val (.int (l_ &&& (2147483647 : Int32))), .val (.double (own_dd l_ m_)), .second, .val (.double (own_qq q_)), .second, .val (.double (own_nu l_ m_ q_)), .second, .val (.int (own_fr f l_ m_ q_)), .val (.double (own_bg f l_ m_ q_)), .second, .val (.ref a57), .val (.double (own_pr f l_ m_ q_)), .second] [(.double FP.dconst0), (.double (own_bg f l_ m_ q_))])) _
    refine XS.dcmpS X83.here hx rfl (hb hby at_94) rfl rfl ?_
    show Steps p.tables e below (T79.setTop (mkF m 95 #[.val (.int f), .val (.int l_), .val (.int m_), .val (.int q_), .val (.double (own_mu m_)), .second, .val (.int (l_ &&& (2147483647 : Int32))), .val (.double (own_dd l_ m_)), .second, .val (.double (own_qq q_)), .second, .val (.double (own_nu l_ m_ q_)), .second, .val (.int (own_fr f l_ m_ q_)), .val (.double (own_bg f l_ m_ q_)), .second, .val (.ref a57), .val (.double (own_pr f l_ m_ q_)), .second] [(.int (cmpValue (FP.dcmp (own_bg f l_ m_ q_) FP.dconst0) .l))])) _
    refine XS.ifNo X83.here hx rfl (hb hby at_95) rfl (own_ifF_lt (own_bg_ge f l_ m_ q_)) ?_
    show Steps p.tables e below (T79.setTop (mkF m 98 #[.val (.int f), .val (.int l_), .val (.int m_), .val (.int q_), .val (.double (own_mu m_)), .second, .val (.int (l_ &&& (2147483647 : Int32))), .val (.double (own_dd l_ m_)), .second, .val (.double (own_qq q_)), .second, .val (.double (own_nu l_ m_ q_)), .second, .val (.int (own_fr f l_ m_ q_)), .val (.double (own_bg f l_ m_ q_)), .second, .val (.ref a57), .val (.double (own_pr f l_ m_ q_)), .second] [])) _
    refine XS.dload X83.here hx rfl (hb hby at_98) rfl ?_
    show Steps p.tables e below (T79.setTop (mkF m 100 #[.val (.int f), .val (.int l_), .val (.int m_), .val (.int q_), .val (.double (own_mu m_)), .second, .val (.int (l_ &&& (2147483647 : Int32))), .val (.double (own_dd l_ m_)), .second, .val (.double (own_qq q_)), .second, .val (.double (own_nu l_ m_ q_)), .second, .val (.int (own_fr f l_ m_ q_)), .val (.double (own_bg f l_ m_ q_)), .second, .val (.ref a57), .val (.double (own_pr f l_ m_ q_)), .second] [(.double (own_pr f l_ m_ q_))])) _
    refine XS.dload X83.here hx rfl (hb hby at_100) rfl ?_
    show Steps p.tables e below (T79.setTop (mkF m 102 #[.val (.int f), .val (.int l_), .val (.int m_), .val (.int q_), .val (.double (own_mu m_)), .second, .val (.int (l_ &&& (2147483647 : Int32))), .val (.double (own_dd l_ m_)), .second, .val (.double (own_qq q_)), .second, .val (.double (own_nu l_ m_ q_)), .second, .val (.int (own_fr f l_ m_ q_)), .val (.double (own_bg f l_ m_ q_)), .second, .val (.ref a57), .val (.double (own_pr f l_ m_ q_)), .second] [(.double (own_qq q_)), (.double (own_pr f l_ m_ q_))])) _
    refine XS.dcmpS X83.here hx rfl (hb hby at_102) rfl (own_fin f l_ m_ q_) ?_
    show Steps p.tables e below (T79.setTop (mkF m 103 #[.val (.int f), .val (.int l_), .val (.int m_), .val (.int q_), .val (.double (own_mu m_)), .second, .val (.int (l_ &&& (2147483647 : Int32))), .val (.double (own_dd l_ m_)), .second, .val (.double (own_qq q_)), .second, .val (.double (own_nu l_ m_ q_)), .second, .val (.int (own_fr f l_ m_ q_)), .val (.double (own_bg f l_ m_ q_)), .second, .val (.ref a57), .val (.double (own_pr f l_ m_ q_)), .second] [(.int (0 : Int32))])) _
    refine XS.ifNo X83.here hx rfl (hb hby at_103) rfl (by decide) ?_
    show Steps p.tables e below (T79.setTop (mkF m 106 #[.val (.int f), .val (.int l_), .val (.int m_), .val (.int q_), .val (.double (own_mu m_)), .second, .val (.int (l_ &&& (2147483647 : Int32))), .val (.double (own_dd l_ m_)), .second, .val (.double (own_qq q_)), .second, .val (.double (own_nu l_ m_ q_)), .second, .val (.int (own_fr f l_ m_ q_)), .val (.double (own_bg f l_ m_ q_)), .second, .val (.ref a57), .val (.double (own_pr f l_ m_ q_)), .second] [])) _
    refine XS.iconst X83.here hx rfl (hb hby at_106) ?_
    show Steps p.tables e below (T79.setTop (mkF m 107 #[.val (.int f), .val (.int l_), .val (.int m_), .val (.int q_), .val (.double (own_mu m_)), .second, .val (.int (l_ &&& (2147483647 : Int32))), .val (.double (own_dd l_ m_)), .second, .val (.double (own_qq q_)), .second, .val (.double (own_nu l_ m_ q_)), .second, .val (.int (own_fr f l_ m_ q_)), .val (.double (own_bg f l_ m_ q_)), .second, .val (.ref a57), .val (.double (own_pr f l_ m_ q_)), .second] [(.int (1 : Int32))])) _
    refine XS.goto X83.here hx rfl (pc0 := 107) (pc' := 111) rfl (hb hby at_107) (by decide) (by decide) ?_
    show Steps p.tables e below (T79.setTop (mkF m 111 #[.val (.int f), .val (.int l_), .val (.int m_), .val (.int q_), .val (.double (own_mu m_)), .second, .val (.int (l_ &&& (2147483647 : Int32))), .val (.double (own_dd l_ m_)), .second, .val (.double (own_qq q_)), .second, .val (.double (own_nu l_ m_ q_)), .second, .val (.int (own_fr f l_ m_ q_)), .val (.double (own_bg f l_ m_ q_)), .second, .val (.ref a57), .val (.double (own_pr f l_ m_ q_)), .second] [(.int (1 : Int32))])) _
    exact hh)
  obtain ⟨fs, hr, hrun, hended, hW, hsame⟩ := X83.leave (v := some (.int (1 : Int32))) (fun h => by rw [Bd.returns] at h; cases h)
  refine ⟨_, _, k20 _ (retN X83 hx (t := .boolean) Bd.returns (by simp) (hb hby at_111) hr), hrun, hended, _, _, rfl, ?_, ⟨_, rfl⟩, hW, hsame.mono (by decide) (by decide)⟩
  show QL h0 n0 _ T79.heap _
  rw [e96]
  exact ⟨rfl, N97⟩
set_option maxRecDepth 65536 in
set_option maxHeartbeats 40000000 in
theorem comes_1 {Post : Tables → Env → Array Value → State → Outcome → State → Prop} (hpost : ∀ tb e args s v u, (limb_1_1.after args s (.returned v) u = true ∧ limb_1_2.after args s (.returned v) u = true ∧ True) → FrameEnd s (.returned v) u (Jvm.fieldLocs frame_1_writes args s ++ Jvm.arrayLocs frame_1_arrays args s ++ Jvm.staticLocs frame_1_statics s) 16 128 → Post tb e args s (.returned v) u) :
    ArmFor flags0 classFile x code maxLocals ret World_1 tables_1 room_1 Calls_1 rest_1 Pre_1 Post := by
  intro l hfl _ _ p e ha hc hk s m args below hf hA hF happ hP
  obtain ⟨hcalls, hrest, hpre⟩ := hP
  obtain ⟨-, -, -, hnamed, -, -, -, hat⟩ := (Spec.applies_iff hf).mp happ
  obtain ⟨hg, hn⟩ := and_e (Cond.before_iff.mp (show (Jvm.Cond.and given_1 narrow_1).before args s = true from hpre))
  obtain ⟨h1, g0⟩ := and_e hg
  obtain ⟨j0, g1⟩ := and_e g0
  obtain ⟨j1, g2⟩ := and_e g1
  obtain ⟨j2, g3⟩ := and_e g2
  have j3 := g3
  obtain ⟨w0, w1, w2, w3, rfl⟩ : ∃ w0 w1 w2 w3 : Value, args = #[w0, w1, w2, w3] := by
    have hs : args.size = 4 := by simpa [Cond.value, given_1] using h1
    obtain ⟨L⟩ := args
    match L, hs with
    | [w0, w1, w2, w3], _ => exact ⟨w0, w1, w2, w3, rfl⟩
  have hw := fun d (hd : d ∈ tables_1) => atoms_spec (ws := Jvm.Cond.code x code maxLocals ret :: tables_1) hat d (List.mem_cons_of_mem _ hd)
  have hfit : Fit s := fun {y c} hc i hi => by
    obtain ⟨ha, rfl⟩ := Array.getElem?_eq_some_iff.mp hc
    have q := List.all_eq_true.mp ((Array.all_eq_true_iff_forall_mem.mp hF) _ (Array.getElem_mem ha)) i (List.mem_range.mpr hi)
    simpa [Array.getElem?_eq_getElem hi] using q
  obtain ⟨i0, q0⟩ := is_v j0
  obtain rfl : w0 = (.int i0) := Option.some.inj q0
  obtain ⟨i1, q1⟩ := is_v j1
  obtain rfl : w1 = (.int i1) := Option.some.inj q1
  obtain ⟨i2, q2⟩ := is_v j2
  obtain rfl : w2 = (.int i2) := Option.some.inj q2
  obtain ⟨i3, q3⟩ := is_v j3
  obtain rfl : w3 = (.int i3) := Option.some.inj q3
  obtain ⟨n, o, h1, h2, h3, _, L, rfl, ⟨rfl, N⟩, hq⟩ := rmL l s _ hw tables_1 i0 i1 i2 i3 s.heap s.heap.size (Nat.le_refl _)  p e ha hc hk s m _ below hf ((Spec.applies_iff_loose hf).mp happ).1 ⟨rfl, State.Warmed39.refl s, rfl⟩ trivial
  refine ⟨n, _, h1, h2, h3, hpost _ _ _ _ _ _ ⟨Cond.after_iff.mpr rfl, Cond.after_iff.mpr (eq_i res_at (Term.int_eval (1)) rfl), trivial⟩ ⟨hq.1, hq.2.1, (hq.2.2.sift fun y hy => Or.inr (N y hy)).mono (by decide) (by decide)⟩⟩
theorem main_1_1 : Claimed_1_1 := comes_1 fun _ _ _ _ _ _ h hF => ⟨h.1, hF⟩
theorem main_1_2 : Claimed_1_2 := comes_1 fun _ _ _ _ _ _ h hF => ⟨h.2.1, hF⟩
end Jvm.Pilot.@@N@@
namespace Jvm.Pilot.@@N@@
open Jvm Jvm.ClassFile Sem Op Lib Jvm.Free Jvm.Stand Jvm.Pilot.@@N@@.Jvm.D
/-! MADE BY PROGRAM (witnessworld.py) out of the Statement's table words and the real class files: 12 classes; the members and pool entries that the words name. The judged class is class 1, her method 1. -/
namespace start1
open Jvm.ClassFile
def u (s : String) : CpInfo := .utf8 (stringToUtf16 s)
/-- a pool by its gaps: so many unusable entries, then the entry; so many at the end -/
def gap : Nat → List CpInfo → List CpInfo
  | 0, r => r
  | n + 1, r => .unusable :: gap n r
def poolList (es : List (Nat × CpInfo)) (last : Nat) : List CpInfo := es.foldr (fun e r => gap e.1 (e.2 :: r)) (gap last [])
def pool (es : List (Nat × CpInfo)) (last : Nat) : Array CpInfo := ⟨poolList es last⟩
def fileOf (pool : Array CpInfo) (this : Nat) (attrs : Array Attribute := #[]) (ms : Array MethodInfo := #[]) (fl : Nat := 33) (sup : Nat := 0) (ifs : Array Nat := #[]) (fds : Array FieldInfo := #[]) : ClassFile where
  minorVersion := 0
  majorVersion := 65
  constantPool := pool
  accessFlags := fl
  thisClass := this
  superClass := sup
  interfaces := ifs
  fields := fds
  methods := ms
  attributes := attrs
def plain (name : String) (sup : Option ClassId) : Class where
  name := name
  kind := .ordinary
  loader := none
  accessFlags := 33
  super := sup
  interfaces := #[]
  cf := none
  fields := #[]
  methods := #[]
  instanceTypes := #[]
  staticTypes := #[]
  resolved := #[]
  callSites := []
  init := .initialized
  statics := none
  mirror := none

def pool0 : Array CpInfo := pool [(5, u "<init>"), (0, u "()V"), (1, .class_ 10), (1, u "java/lang/Object")] 113

def k0c0 : Code := { maxStack := 0, maxLocals := 1, code := object_method_1_code, exceptionTable := #[], attributes := #[] }
def k0m0 : Method := { name := "<init>", desc := "()V", sig := { parameters := [], returnType := none }, accessFlags := 1, code := some k0c0 }
/-- java/lang/Object -/
def k0 : Class := { plain "java/lang/Object" none with
  accessFlags := 33
  interfaces := #[]
  cf := some (fileOf pool0 8 #[] #[{ accessFlags := 1, nameIndex := 5, descriptorIndex := 6, attributes := #[] }] 33 0 #[] #[])
  fields := #[]
  methods := #[k0m0]
  instanceTypes := #[]
  staticTypes := #[]
  resolved := Array.replicate 124 none
  statics := none }

def pool1 : Array CpInfo := pool [(2, .class_ 4), (1, u "java/lang/Object"), (0, u "<init>"), (0, u "()V"), (0, .integer 1048575), (0, .double 4620693217682128896), (1, .integer 2147483647), (0, .integer 65535), (0, .double 4652218415073722368), (1, .methodref 15 16), (0, .class_ 17), (0, .nameAndType 18 19), (0, u "java/lang/Math"), (0, u "min"), (0, u "(JJ)J"), (0, .class_ 21), (0, u "com/example/geirfa/geirfa/retrieval/Smoothing$Dirichlet"), (0, .methodref 20 23), (0, .nameAndType 5 24), (0, u "(D)V"), (0, .methodref 20 26), (0, .nameAndType 27 28), (0, u "probability"), (0, u "(IID)D"), (0, .class_ 30), (0, u "com/example/geirfa/geirfa/retrieval/DirichletProbabilityPinLaw"), (2, u "law"), (0, u "(IIII)Z")] 7

def k1m0 : Method := { name := "<init>", desc := "()V", sig := { parameters := [], returnType := none }, accessFlags := 1, code := none }
def k1c1 : Code := { maxStack := 5, maxLocals := 19, code := code, exceptionTable := #[], attributes := #[] }
def k1m1 : Method := { name := "law", desc := "(IIII)Z", sig := { parameters := [.int, .int, .int, .int], returnType := some .boolean }, accessFlags := 9, code := some k1c1 }
/-- com/example/geirfa/geirfa/retrieval/DirichletProbabilityPinLaw -/
def k1 : Class := { plain "com/example/geirfa/geirfa/retrieval/DirichletProbabilityPinLaw" (some 0) with
  accessFlags := 49
  interfaces := #[]
  cf := some (fileOf pool1 29 #[] #[{ accessFlags := 1, nameIndex := 5, descriptorIndex := 6, attributes := #[] }, { accessFlags := 9, nameIndex := 33, descriptorIndex := 34, attributes := #[] }] 49 2 #[] #[])
  fields := #[]
  methods := #[k1m0, k1m1]
  instanceTypes := #[]
  staticTypes := #[]
  resolved := Array.replicate 42 none
  statics := none }

def pool2 : Array CpInfo := pool [(1, .class_ 2), (0, u "java/lang/Math"), (1, .class_ 6), (1, u "java/lang/Object"), (0, u "<init>"), (0, u "()V"), (89, .class_ 100), (1, u "java/lang/Math$RandomNumberGeneratorHolder"), (20, u "(JJ)J"), (50, u "negativeZeroFloatBits"), (0, u "J"), (2, u "negativeZeroDoubleBits"), (24, u "min"), (43, u "$assertionsDisabled"), (0, u "Z"), (91, u "twoToTheDoubleScaleDown"), (0, u "D"), (4, u "twoToTheDoubleScaleUp"), (9, u "E"), (3, u "PI"), (2, u "TAU"), (2, u "DEGREES_TO_RADIANS"), (0, u "RADIANS_TO_DEGREES")] 94

def k2m0 : Method := { name := "<init>", desc := "()V", sig := { parameters := [], returnType := none }, accessFlags := 2, code := none }
def k2c1 : Code := { maxStack := 4, maxLocals := 4, code := jdk_29_method_70_code, exceptionTable := #[], attributes := #[] }
def k2m1 : Method := { name := "min", desc := "(JJ)J", sig := { parameters := [.long, .long], returnType := some .long }, accessFlags := 9, code := some k2c1 }
/-- java/lang/Math -/
def k2 : Class := { plain "java/lang/Math" (some 0) with
  accessFlags := 49
  interfaces := #[]
  cf := some (fileOf pool2 1 #[.nestMembers #[98]] #[{ accessFlags := 2, nameIndex := 7, descriptorIndex := 8, attributes := #[] }, { accessFlags := 9, nameIndex := 201, descriptorIndex := 121, attributes := #[] }] 49 4 #[] #[{ accessFlags := 25, nameIndex := 354, descriptorIndex := 339, attributes := #[] }, { accessFlags := 25, nameIndex := 358, descriptorIndex := 339, attributes := #[] }, { accessFlags := 25, nameIndex := 361, descriptorIndex := 339, attributes := #[] }, { accessFlags := 26, nameIndex := 364, descriptorIndex := 339, attributes := #[] }, { accessFlags := 26, nameIndex := 365, descriptorIndex := 339, attributes := #[] }, { accessFlags := 26, nameIndex := 172, descriptorIndex := 173, attributes := #[] }, { accessFlags := 26, nameIndex := 176, descriptorIndex := 173, attributes := #[] }, { accessFlags := 8, nameIndex := 344, descriptorIndex := 339, attributes := #[] }, { accessFlags := 8, nameIndex := 338, descriptorIndex := 339, attributes := #[] }, { accessFlags := 4120, nameIndex := 245, descriptorIndex := 246, attributes := #[] }])
  fields := #[{ name := "E", type := .double, accessFlags := 25, slot := 0, constantValue := 0 }, { name := "PI", type := .double, accessFlags := 25, slot := 1, constantValue := 0 }, { name := "TAU", type := .double, accessFlags := 25, slot := 2, constantValue := 0 }, { name := "DEGREES_TO_RADIANS", type := .double, accessFlags := 26, slot := 3, constantValue := 0 }, { name := "RADIANS_TO_DEGREES", type := .double, accessFlags := 26, slot := 4, constantValue := 0 }, { name := "negativeZeroFloatBits", type := .long, accessFlags := 26, slot := 5, constantValue := 0 }, { name := "negativeZeroDoubleBits", type := .long, accessFlags := 26, slot := 6, constantValue := 0 }, { name := "twoToTheDoubleScaleUp", type := .double, accessFlags := 8, slot := 7, constantValue := 0 }, { name := "twoToTheDoubleScaleDown", type := .double, accessFlags := 8, slot := 8, constantValue := 0 }, { name := "$assertionsDisabled", type := .boolean, accessFlags := 4120, slot := 9, constantValue := 0 }]
  methods := #[k2m0, k2m1]
  instanceTypes := #[]
  staticTypes := #[.double, .double, .double, .double, .double, .long, .long, .double, .double, .boolean]
  resolved := Array.replicate 460 none
  statics := none }

def pool3 : Array CpInfo := pool [(1, .methodref 2 3), (0, .class_ 4), (0, .nameAndType 5 6), (0, u "java/lang/Object"), (0, u "<init>"), (0, u "()V"), (0, .class_ 8), (0, u "java/lang/Record")] 13

def k3c0 : Code := { maxStack := 1, maxLocals := 1, code := jdk_30_method_1_code, exceptionTable := #[], attributes := #[] }
def k3m0 : Method := { name := "<init>", desc := "()V", sig := { parameters := [], returnType := none }, accessFlags := 4, code := some k3c0 }
/-- java/lang/Record -/
def k3 : Class := { plain "java/lang/Record" (some 0) with
  accessFlags := 1057
  interfaces := #[]
  cf := some (fileOf pool3 7 #[] #[{ accessFlags := 4, nameIndex := 5, descriptorIndex := 6, attributes := #[] }] 1057 2 #[] #[])
  fields := #[]
  methods := #[k3m0]
  instanceTypes := #[]
  staticTypes := #[]
  resolved := Array.replicate 22 none
  statics := none }

def pool4 : Array CpInfo := pool [(1, .class_ 2), (0, u "com/example/geirfa/geirfa/retrieval/Smoothing"), (0, .class_ 4), (0, u "java/lang/Object"), (7, .class_ 13), (0, u "com/example/geirfa/geirfa/retrieval/Smoothing$JelinekMercer"), (0, .class_ 15), (0, u "com/example/geirfa/geirfa/retrieval/Smoothing$Dirichlet")] 4

/-- com/example/geirfa/geirfa/retrieval/Smoothing -/
def k4 : Class := { plain "com/example/geirfa/geirfa/retrieval/Smoothing" (some 0) with
  accessFlags := 1537
  interfaces := #[]
  cf := some (fileOf pool4 1 #[.nestMembers #[12, 14]] #[] 1537 3 #[] #[])
  fields := #[]
  methods := #[]
  instanceTypes := #[]
  staticTypes := #[]
  resolved := Array.replicate 20 none
  statics := none }

def pool5 : Array CpInfo := pool [(1, .methodref 2 3), (0, .class_ 4), (0, .nameAndType 5 6), (0, u "java/lang/Record"), (0, u "<init>"), (0, u "()V"), (2, .double 9218868437227405312), (10, .fieldref 21 22), (0, .class_ 23), (0, .nameAndType 24 25), (0, u "com/example/geirfa/geirfa/retrieval/Smoothing$Dirichlet"), (0, u "mu"), (0, u "D"), (12, .class_ 39), (0, u "com/example/geirfa/geirfa/retrieval/Smoothing"), (0, u "(D)V"), (6, u "probability"), (0, u "(IID)D")] 33

def k5c0 : Code := { maxStack := 4, maxLocals := 3, code := prog_28_method_1_code, exceptionTable := #[], attributes := #[] }
def k5m0 : Method := { name := "<init>", desc := "(D)V", sig := { parameters := [.double], returnType := none }, accessFlags := 1, code := some k5c0 }
def k5c1 : Code := { maxStack := 6, maxLocals := 5, code := prog_28_method_3_code, exceptionTable := #[], attributes := #[] }
def k5m1 : Method := { name := "probability", desc := "(IID)D", sig := { parameters := [.int, .int, .double], returnType := some .double }, accessFlags := 1, code := some k5c1 }
/-- com/example/geirfa/geirfa/retrieval/Smoothing$Dirichlet -/
def k5 : Class := { plain "com/example/geirfa/geirfa/retrieval/Smoothing$Dirichlet" (some 3) with
  accessFlags := 49
  interfaces := #[4]
  cf := some (fileOf pool5 21 #[.nestHost 38] #[{ accessFlags := 1, nameIndex := 5, descriptorIndex := 40, attributes := #[] }, { accessFlags := 1, nameIndex := 47, descriptorIndex := 48, attributes := #[] }] 49 2 #[38] #[{ accessFlags := 18, nameIndex := 24, descriptorIndex := 25, attributes := #[] }])
  fields := #[{ name := "mu", type := .double, accessFlags := 18, slot := 0, constantValue := 0 }]
  methods := #[k5m0, k5m1]
  instanceTypes := #[.double]
  staticTypes := #[]
  resolved := Array.replicate 82 none
  statics := none }

def pool6 : Array CpInfo := pool [(1, u "java/lang/Cloneable"), (0, .class_ 1), (0, u "java/lang/Object"), (0, .class_ 3)] 3

/-- java/lang/Cloneable -/
def k6 : Class := { plain "java/lang/Cloneable" (some 0) with
  accessFlags := 1537
  interfaces := #[]
  cf := some (fileOf pool6 2 #[] #[] 1537 4 #[] #[])
  fields := #[]
  methods := #[]
  instanceTypes := #[]
  staticTypes := #[]
  resolved := Array.replicate 8 none
  statics := none }

def pool7 : Array CpInfo := pool [(1, u "java/io/Serializable"), (0, .class_ 1), (0, u "java/lang/Object"), (0, .class_ 3)] 3

/-- java/io/Serializable -/
def k7 : Class := { plain "java/io/Serializable" (some 0) with
  accessFlags := 1537
  interfaces := #[]
  cf := some (fileOf pool7 2 #[] #[] 1537 4 #[] #[])
  fields := #[]
  methods := #[]
  instanceTypes := #[]
  staticTypes := #[]
  resolved := Array.replicate 8 none
  statics := none }

/-- the primitive byte -/
def k8 : Class := { plain "byte" none with kind := .primitive 'B', accessFlags := 0x411 }
/-- [B -/
def k9 : Class := { plain "[B" (some 0) with kind := .array 8 .byte, interfaces := #[6, 7], accessFlags := 1041 }

/-- the primitive int -/
def k10 : Class := { plain "int" none with kind := .primitive 'I', accessFlags := 0x411 }
/-- [I -/
def k11 : Class := { plain "[I" (some 0) with kind := .array 10 .int, interfaces := #[6, 7], accessFlags := 1041 }

def heap : Heap := #[]
def classes : Array Class := #[k0, k1, k2, k3, k4, k5, k6, k7, k8, k9, k10, k11]
def interned : List (Array UInt16 × Addr) := []
def slotsUsed : Nat := 0
def theMethod : MethodId := ⟨1, 1⟩
def args0 : Array Value := #[.int 5, .int 3, .int 7, .int 9]
def aboutOver (below : List Frame) : State where
  vm := { classes := classes, interned := interned.toArray }
  heap := heap
  slotsUsed := slotsUsed
  threads := #[{ frames := .invoking theMethod args0 :: below }]
def below0 : List Frame := [.native { method := ⟨0, 0⟩, args := #[] }]
def about1 : State := aboutOver below0
def p0 : Program := .bare "" "" ""
def e0 : Env := launch0.env 0 0 0
theorem w_frames : about1.frames = Frame.invoking theMethod args0 :: below0 := rfl
set_option maxRecDepth 65536 in
theorem w_args : argsFit about1.vm theMethod args0 = true := by decide +kernel
set_option maxRecDepth 65536 in
theorem w_heap : heapFits about1 = true := by decide +kernel
set_option maxRecDepth 65536 in
theorem w_runnable : about1.curStatus? = some .runnable := by decide +kernel
set_option maxRecDepth 65536 in
theorem w_alone : about1.alone = true := by decide +kernel
set_option maxRecDepth 65536 in
theorem w_named : about1.methodNamed? x = some theMethod := by decide +kernel
set_option maxRecDepth 65536 in
theorem w_hears : about1.hears theMethod below0 = true := by decide +kernel
set_option maxRecDepth 65536 in
theorem w_ripe : about1.ripe theMethod args0 below0 = true := by decide +kernel
theorem w_running : about1.status = .running := rfl
set_option maxRecDepth 65536 in
theorem w_room : about1.hasRoom e0.platform room_1 = true :=
  launch0.hasRoom_least _ room_1 (by decide +kernel) (by decide +kernel) (by decide +kernel) (by decide +kernel) (by decide +kernel) (by decide +kernel)
theorem allAtoms_all (ts : List Jvm.Cond) (a : Array Jvm.Value) (st : Jvm.State) : (allAtoms ts).before a st = ts.all (fun c => c.before a st) := by
  induction ts with
  | nil => rfl
  | cons c t ih =>
    show (Jvm.Cond.and c (allAtoms t)).before a st = _
    rw [Jvm.Cond.before_and, ih, List.all_cons]
def words1 : List Jvm.Cond := Jvm.Cond.code x code maxLocals ret :: tables_1
/-- a 'code' word, met by the world's own term for the bytes: nothing is compared byte by byte -/
theorem code_word {y : MethodName} {bytes : ByteArray} {mx : Nat} {rt : Option FieldType} {a : Array Value} {s : State} {m : MethodId} {meth : Method} {c : Code} (h1 : s.methodNamed? y = some m) (h2 : s.vm.method? m = some meth) (h3 : meth.code = some c) (h4 : c.code = bytes)
    (h5 : (c.maxLocals == mx && c.exceptionTable.isEmpty && decide (c.maxStack ≤ mostOperands) && decide (meth.sig.returnType = rt) && !meth.locks && decide (parseMethodDescriptor y.desc = some meth.sig)) = true) : (Jvm.Cond.code y bytes mx rt).before a s = true := by
  simp only [Bool.and_eq_true, beq_iff_eq, Bool.not_eq_true', decide_eq_true_eq] at h5
  obtain ⟨⟨⟨⟨⟨g1, g2⟩, g3⟩, g4⟩, g5⟩, g6⟩ := h5
  simp [Cond.before, Cond.holds, Cond.value, h1, h2, h3, h4, g1, g2, g3, g4, g5, g6]
def isCode : Jvm.Cond → Bool
  | .code _ _ _ _ => true
  | _ => false
theorem all_split {L : List Jvm.Cond} {P : Jvm.Cond → Bool} (h1 : L.all (fun c => isCode c || P c) = true) (h2 : ∀ c ∈ L.filter isCode, P c = true) : L.all P = true := by
  refine List.all_eq_true.mpr fun c hc => ?_
  have h := List.all_eq_true.mp h1 c hc
  rcases Bool.eq_false_or_eq_true (isCode c) with hi | hi
  · exact h2 c (List.mem_filter.mpr ⟨hc, hi⟩)
  · simpa [hi] using h
set_option maxRecDepth 65536 in
theorem w_c0 : (Jvm.Cond.code x code maxLocals ret).before args0 about1 = true := code_word (m := ⟨1, 1⟩) (meth := k1m1) (c := k1c1) (by decide +kernel) rfl rfl rfl (by decide +kernel)
set_option maxRecDepth 65536 in
theorem w_c1 : (Jvm.Cond.code ({ cls := "java/lang/Math", name := "min", desc := "(JJ)J" } : Jvm.MethodName) jdk_29_method_70_code (4 : Nat) (Option.some Jvm.ClassFile.FieldType.long)).before args0 about1 = true := code_word (m := ⟨2, 1⟩) (meth := k2m1) (c := k2c1) (by decide +kernel) rfl rfl rfl (by decide +kernel)
set_option maxRecDepth 65536 in
theorem w_c2 : (Jvm.Cond.code ({ cls := "com/example/geirfa/geirfa/retrieval/Smoothing$Dirichlet", name := "<init>", desc := "(D)V" } : Jvm.MethodName) prog_28_method_1_code (3 : Nat) (Option.none : Option Jvm.ClassFile.FieldType)).before args0 about1 = true := code_word (m := ⟨5, 0⟩) (meth := k5m0) (c := k5c0) (by decide +kernel) rfl rfl rfl (by decide +kernel)
set_option maxRecDepth 65536 in
theorem w_c3 : (Jvm.Cond.code ({ cls := "java/lang/Record", name := "<init>", desc := "()V" } : Jvm.MethodName) jdk_30_method_1_code (1 : Nat) (Option.none : Option Jvm.ClassFile.FieldType)).before args0 about1 = true := code_word (m := ⟨3, 0⟩) (meth := k3m0) (c := k3c0) (by decide +kernel) rfl rfl rfl (by decide +kernel)
set_option maxRecDepth 65536 in
theorem w_c4 : (Jvm.Cond.code ({ cls := "java/lang/Object", name := "<init>", desc := "()V" } : Jvm.MethodName) object_method_1_code (1 : Nat) (Option.none : Option Jvm.ClassFile.FieldType)).before args0 about1 = true := code_word (m := ⟨0, 0⟩) (meth := k0m0) (c := k0c0) (by decide +kernel) rfl rfl rfl (by decide +kernel)
set_option maxRecDepth 65536 in
theorem w_c5 : (Jvm.Cond.code ({ cls := "com/example/geirfa/geirfa/retrieval/Smoothing$Dirichlet", name := "probability", desc := "(IID)D" } : Jvm.MethodName) prog_28_method_3_code (5 : Nat) (Option.some Jvm.ClassFile.FieldType.double)).before args0 about1 = true := code_word (m := ⟨5, 1⟩) (meth := k5m1) (c := k5c1) (by decide +kernel) rfl rfl rfl (by decide +kernel)
def codes1 : List Jvm.Cond := [Jvm.Cond.code x code maxLocals ret, Jvm.Cond.code ({ cls := "java/lang/Math", name := "min", desc := "(JJ)J" } : Jvm.MethodName) jdk_29_method_70_code (4 : Nat) (Option.some Jvm.ClassFile.FieldType.long), Jvm.Cond.code ({ cls := "com/example/geirfa/geirfa/retrieval/Smoothing$Dirichlet", name := "<init>", desc := "(D)V" } : Jvm.MethodName) prog_28_method_1_code (3 : Nat) (Option.none : Option Jvm.ClassFile.FieldType), Jvm.Cond.code ({ cls := "java/lang/Record", name := "<init>", desc := "()V" } : Jvm.MethodName) jdk_30_method_1_code (1 : Nat) (Option.none : Option Jvm.ClassFile.FieldType), Jvm.Cond.code ({ cls := "java/lang/Object", name := "<init>", desc := "()V" } : Jvm.MethodName) object_method_1_code (1 : Nat) (Option.none : Option Jvm.ClassFile.FieldType), Jvm.Cond.code ({ cls := "com/example/geirfa/geirfa/retrieval/Smoothing$Dirichlet", name := "probability", desc := "(IID)D" } : Jvm.MethodName) prog_28_method_3_code (5 : Nat) (Option.some Jvm.ClassFile.FieldType.double)]
set_option maxRecDepth 65536 in
theorem codes_eq : words1.filter isCode = codes1 := rfl
theorem w_codes : ∀ c ∈ words1.filter isCode, c.before args0 about1 = true := by
  rw [codes_eq]
  intro c hc
  simp only [codes1, List.mem_cons, List.not_mem_nil, or_false] at hc
  rcases hc with rfl | rfl | rfl | rfl | rfl | rfl
  · exact w_c0
  · exact w_c1
  · exact w_c2
  · exact w_c3
  · exact w_c4
  · exact w_c5
set_option maxRecDepth 65536 in
theorem w_t1 : (words1.take 24).all (fun c => isCode c || c.before args0 about1) = true := by decide +kernel
set_option maxRecDepth 65536 in
theorem w_t2 : (words1.drop 24).all (fun c => isCode c || c.before args0 about1) = true := by decide +kernel
theorem w_tables : (allAtoms (Jvm.Cond.code x code maxLocals ret :: tables_1)).before args0 about1 = true := by
  rw [allAtoms_all]
  show words1.all (fun c => c.before args0 about1) = true
  refine all_split ?_ w_codes
  rw [← List.take_append_drop 24 words1, List.all_append, w_t1, w_t2]
  rfl
set_option maxRecDepth 65536 in
theorem w_case : (Jvm.Cond.and given_1 narrow_1).before args0 about1 = true := by decide +kernel
theorem w_applies : (headSpec (Jvm.Cond.code x code maxLocals ret :: tables_1) room_1).applies x e0.platform about1 = true :=
  (Spec.applies_iff w_frames).mpr ⟨w_running, w_runnable, w_alone, w_named, w_hears, w_ripe, w_room, w_tables⟩
theorem atStart : AtStart classFile x code maxLocals ret World_1 tables_1 room_1 Calls_1 rest_1 Pre_1 launch0 p0 e0 about1 theMethod args0 below0 :=
  ⟨lists_1, trivial, launch0.admits_env _ _ _, launch0.least_env, fairChoices_fair.cas, fairChoices_fair.clock, w_frames, w_args, w_heap, w_applies, trivial, trivial, w_case⟩
end start1
theorem witness_1 : WitnessClaimed_1 := ⟨start1.p0, start1.e0, start1.about1, start1.theMethod, start1.args0, start1.below0, start1.atStart⟩
end Jvm.Pilot.@@N@@
