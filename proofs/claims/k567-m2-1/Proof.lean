import JvmDerived
import JvmDerived.Pilot.@@N@@Statement
import JvmDerived.Pilot.@@N@@Code
set_option linter.unusedVariables false
set_option linter.unusedSimpArgs false
namespace Jvm.Pilot.@@N@@.Dyad
open Jvm Jvm.FP Jvm.FP.Core
/-- the exponent moved up by k -/
def sh (k : Int) : Datum → Datum
  | .nan => .nan
  | .inf s => .inf s
  | .fin s c q => .fin s c (q + k)
theorem sh_prod (k l : Int) (x y : Datum) : exactProduct (sh k x) (sh l y) = sh (k + l) (exactProduct x y) := by
  cases x <;> cases y <;> simp only [sh, exactProduct]
  · split <;> rfl
  · split <;> rfl
  · rw [show ∀ q r : Int, q + k + (r + l) = q + r + (k + l) from fun q r => by omega]
theorem inUnits_sh (c : Nat) (q e k : Int) : inUnits c (q + k) (e + k) = inUnits c q e := by
  unfold inUnits; rw [show q + k - (e + k) = q - e by omega]
theorem min_sh (q r k : Int) : min (q + k) (r + k) = min q r + k := by omega
theorem sumUnits_sh (s : Bool) (c : Nat) (q : Int) (t : Bool) (d : Nat) (r e k : Int) : sumUnits s c (q + k) t d (r + k) (e + k) = sumUnits s c q t d r e := by
  unfold sumUnits; rw [inUnits_sh, inUnits_sh]
theorem sh_sum (k : Int) (x y : Datum) : exactSum (sh k x) (sh k y) = sh k (exactSum x y) := by
  cases x <;> cases y <;> simp only [sh, exactSum]
  · split <;> rfl
  · rw [min_sh, sumUnits_sh]
theorem sh_neg (k : Int) (x : Datum) : negate (sh k x) = sh k (negate x) := by
  cases x <;> rfl
theorem order_sh (k : Int) (x y : Datum) : order (sh k x) (sh k y) = order x y := by
  cases x <;> cases y <;> simp only [sh, order]
  rw [min_sh, inUnits_sh, inUnits_sh]
theorem sh_zero (x : Datum) : sh 0 x = x := by
  cases x <;> simp [sh]
/-- x is the number n / 2^k -/
def Dy (n k : Int) (x : UInt64) : Prop := Whole n (sh k (val64 x))
theorem Dy.fin {n k : Int} {x : UInt64} (h : Dy n k x) : ∃ s c q, val64 x = .fin s c q ∧ Whole n (.fin s c (q + k)) := by
  unfold Dy at h
  cases hx : val64 x with
  | nan => rw [hx] at h; exact h.elim
  | inf s => rw [hx] at h; exact h.elim
  | fin s c q => rw [hx] at h; exact ⟨s, c, q, rfl, h⟩
theorem Dy.ne_nan {n k : Int} {x : UInt64} (h : Dy n k x) : val64 x ≠ .nan := by
  obtain ⟨s, c, q, e, -⟩ := h.fin; rw [e]; exact Datum.noConfusion
theorem Dy.no {n k : Int} {x : UInt64} (h : Dy n k x) : Jvm.Free.Fl.NoNaN64 x := Jvm.Free.Fl.val64_no.mpr h.ne_nan
theorem whole_scale {n : Int} {s : Bool} {c : Nat} {a : Int} (j : Nat) : Whole n (.fin s c a) ↔ Whole (n * ((2 ^ j : Nat) : Int)) (.fin s c (a + j)) := by
  show signed s (c * 2 ^ a.toNat) = n * ((2 ^ (-a).toNat : Nat) : Int) ↔ signed s (c * 2 ^ (a + j).toNat) = n * ((2 ^ j : Nat) : Int) * ((2 ^ (-(a + j)).toNat : Nat) : Int)
  have e : (a + j).toNat + (-a).toNat = a.toNat + (j + (-(a + j)).toNat) := by omega
  have p : ((2 ^ (-a).toNat : Nat) : Int) ≠ 0 := by have := Nat.two_pow_pos (-a).toNat; omega
  have p2 : ((2 ^ j : Nat) : Int) ≠ 0 := by have := Nat.two_pow_pos j; omega
  have p3 : ((2 ^ (-(a + j)).toNat : Nat) : Int) ≠ 0 := by have := Nat.two_pow_pos (-(a + j)).toNat; omega
  rw [signed_mul, signed_mul]
  have e2 : ((2 ^ (a + j).toNat : Nat) : Int) * ((2 ^ (-a).toNat : Nat) : Int) = ((2 ^ a.toNat : Nat) : Int) * (((2 ^ j : Nat) : Int) * ((2 ^ (-(a + j)).toNat : Nat) : Int)) := by
    rw [← Int.natCast_mul, ← Int.natCast_mul, ← Int.natCast_mul, ← Nat.pow_add, ← Nat.pow_add, ← Nat.pow_add, e]
  generalize signed s c = v
  generalize ((2 ^ (a + j).toNat : Nat) : Int) = P at e2 ⊢
  generalize ((2 ^ (-a).toNat : Nat) : Int) = M at p e2 ⊢
  generalize ((2 ^ a.toNat : Nat) : Int) = A at e2 ⊢
  generalize ((2 ^ j : Nat) : Int) = J at p2 e2 ⊢
  generalize ((2 ^ (-(a + j)).toNat : Nat) : Int) = N at p3 e2 ⊢
  have q1 : v * P * M = v * A * (J * N) := by
    calc v * P * M = v * (P * M) := Int.mul_assoc _ _ _
      _ = v * (A * (J * N)) := by rw [e2]
      _ = v * A * (J * N) := (Int.mul_assoc _ _ _).symm
  have q2 : n * J * N * M = n * M * (J * N) := by simp only [Int.mul_assoc, Int.mul_comm, Int.mul_left_comm]
  constructor
  · intro h
    apply Int.eq_of_mul_eq_mul_right p
    rw [q1, h, q2]
  · intro h
    apply Int.eq_of_mul_eq_mul_right (Int.mul_ne_zero p2 p3)
    rw [← q1, h, q2]
theorem Dy.scale {n k : Int} {x : UInt64} (j : Nat) : Dy n k x ↔ Dy (n * ((2 ^ j : Nat) : Int)) (k + j) x := by
  unfold Dy
  cases val64 x with
  | nan => exact Iff.rfl
  | inf s => exact Iff.rfl
  | fin s c q =>
    show Whole _ (.fin s c (q + k)) ↔ Whole _ (.fin s c (q + (k + j)))
    rw [show q + (k + (j : Int)) = q + k + j by omega]
    exact whole_scale j
theorem Dy.cast {n m k : Int} {x : UInt64} (h : Dy n k x) (e : n = m) : Dy m k x := e ▸ h
theorem Dy.up {n m k l : Int} {x : UInt64} (h : Dy n k x) (j : Nat) (hl : k + j = l) (e : n * ((2 ^ j : Nat) : Int) = m) : Dy m l x := by subst hl e; exact (Dy.scale j).mp h
theorem Dy.down {n m k l : Int} {x : UInt64} (h : Dy n k x) (j : Nat) (hl : l + j = k) (e : m * ((2 ^ j : Nat) : Int) = n) : Dy m l x := by subst hl e; exact (Dy.scale j).mpr h
theorem Dy.i2d (a : Int32) : Dy a.toInt 0 (FP.i2d a) := by
  unfold Dy; rw [sh_zero]; exact i2d_int a
theorem Dy.l2d {a : Int64} (h : a.toInt.natAbs ≤ 2 ^ 53) : Dy a.toInt 0 (FP.l2d a) := by
  unfold Dy; rw [sh_zero]; exact l2d_int h
theorem Dy.lit {n : Int64} {x : UInt64} {m : Int} (h : x = FP.l2d n) (e : n.toInt = m) (b : m.natAbs ≤ 2 ^ 53) : Dy m 0 x := by
  subst h e; exact Dy.l2d b
theorem Dy.cmp {n m k : Int} {x y : UInt64} (hx : Dy n k x) (hy : Dy m k y) : FP.dcmp x y = some (compare n m) := by
  show order (val64 x) (val64 y) = _
  rw [← order_sh k]; exact order_whole hx hy
theorem compare_lt {n m : Int} (h : n < m) : compare n m = .lt := (compare_lt_iff n m).mpr h
theorem compare_eq {n m : Int} (h : n = m) : compare n m = .eq := (compare_eq_iff n m).mpr h
theorem compare_gt {n m : Int} (h : m < n) : compare n m = .gt := by
  rw [compare_swap_int, compare_lt h]; rfl
theorem Dy.lt {n m k : Int} {x y : UInt64} (hx : Dy n k x) (hy : Dy m k y) (h : n < m) (o : Jvm.ClassFile.CmpOp) : Op.cmpValue (FP.dcmp x y) o = -1 := by rw [hx.cmp hy, compare_lt h]; rfl
theorem Dy.eq {n m k : Int} {x y : UInt64} (hx : Dy n k x) (hy : Dy m k y) (h : n = m) (o : Jvm.ClassFile.CmpOp) : Op.cmpValue (FP.dcmp x y) o = 0 := by rw [hx.cmp hy, compare_eq h]; rfl
theorem Dy.gt {n m k : Int} {x y : UInt64} (hx : Dy n k x) (hy : Dy m k y) (h : m < n) (o : Jvm.ClassFile.CmpOp) : Op.cmpValue (FP.dcmp x y) o = 1 := by rw [hx.cmp hy, compare_gt h]; rfl
theorem signed_natAbs {n : Int} {s : Bool} (h : n ≠ 0 → s = decide (n < 0)) : signed s n.natAbs = n := by
  by_cases h0 : n = 0
  · subst h0; exact signed_zero s
  · rw [h h0]; unfold signed
    by_cases q : n < 0
    · simp [q]; omega
    · simp [q]; omega
/-- a number of 53 digits is held exactly -/
theorem round_dy {n k : Int} {d : Datum} (h : Whole n (sh k d)) (hn : n.natAbs < 2 ^ 53) (hk : -900 ≤ k ∧ k ≤ 1000) : Whole n (sh k (round b64 d)) := by
  cases d with
  | nan => exact h.elim
  | inf s => exact h.elim
  | fin s c q =>
    have h1 : Whole n (.fin s c (q + k)) := h
    have e : round b64 (.fin s c q) = round b64 (.fin s n.natAbs (-k)) := by
      show roundRatio b64 s c 1 q = roundRatio b64 s n.natAbs 1 (-k)
      refine roundRatio_congr (by decide) (by decide) ?_
      have := whole_natAbs h1
      rw [Nat.mul_one, Nat.mul_one, show q - -k = q + k by omega, show -k - q = -(q + k) by omega]
      exact this
    have hq : b64.qmin = -1074 := qmin_b64
    have hp : b64.p = 53 := rfl
    obtain ⟨c', q', e1, e2⟩ := round_exact good_b64 s (c := n.natAbs) (q := -k) (by rw [hp]; exact hn) (by rw [hq]; omega) (by rw [show b64.qmax = 971 by decide]; omega)
    rw [e, e1]
    have hf := round_fits good_b64 (.fin s n.natAbs (-k))
    rw [e1] at hf
    have hq' : -1074 ≤ q' := hq ▸ hf.2.1
    unfold inUnits at e2
    rw [hq] at e2
    show signed s (c' * 2 ^ (q' + k).toNat) = n * ((2 ^ (-(q' + k)).toNat : Nat) : Int)
    have key : c' * 2 ^ (q' + k).toNat = n.natAbs * 2 ^ (-(q' + k)).toNat := by
      have e3 : (q' + k).toNat + (-k - -1074).toNat = (q' - -1074).toNat + (-(q' + k)).toNat := by omega
      apply Nat.eq_of_mul_eq_mul_right (Nat.two_pow_pos (-k - -1074).toNat)
      rw [Nat.mul_assoc, ← Nat.pow_add, e3, Nat.pow_add, ← Nat.mul_assoc, e2]
      simp only [Nat.mul_assoc, Nat.mul_comm, Nat.mul_left_comm]
    rw [key, signed_mul, signed_natAbs (fun h0 => whole_sign h1 h0)]
theorem Dy.mul {n m k l : Int} {x y : UInt64} (hx : Dy n k x) (hy : Dy m l y) (hb : (n * m).natAbs < 2 ^ 53) (hk : -900 ≤ k + l ∧ k + l ≤ 1000) : Dy (n * m) (k + l) (FP.dmul x y) := by
  unfold Dy
  rw [show val64 (FP.dmul x y) = _ from val64_dmul x y]
  refine round_dy ?_ hb hk
  rw [← sh_prod]
  exact whole_product hx hy
theorem Dy.add {n m k : Int} {x y : UInt64} (hx : Dy n k x) (hy : Dy m k y) (hb : (n + m).natAbs < 2 ^ 53) (hk : -900 ≤ k ∧ k ≤ 1000) : Dy (n + m) k (FP.dadd x y) := by
  unfold Dy
  rw [show val64 (FP.dadd x y) = _ from val64_dadd x y]
  refine round_dy ?_ hb hk
  rw [← sh_sum]
  exact whole_sum hx hy
theorem Dy.sub {n m k : Int} {x y : UInt64} (hx : Dy n k x) (hy : Dy m k y) (hb : (n - m).natAbs < 2 ^ 53) (hk : -900 ≤ k ∧ k ≤ 1000) : Dy (n - m) k (FP.dsub x y) := by
  unfold Dy
  rw [show val64 (FP.dsub x y) = _ from val64_dsub x y]
  refine round_dy ?_ hb hk
  rw [← sh_sum, ← sh_neg, Int.sub_eq_add_neg]
  exact whole_sum hx (whole_negate hy)
/-- the quotient's rounding, by the values alone -/
theorem Dy.quot {n m k l : Int} {x y : UInt64} (hx : Dy n k x) (hy : Dy m l y) (hm : m ≠ 0) : ∃ s, val64 (FP.ddiv x y) = roundRatio b64 s n.natAbs m.natAbs (l - k) ∧ (n ≠ 0 → s = (decide (n < 0) != decide (m < 0))) := by
  obtain ⟨s, c, q, ex, wx⟩ := hx.fin
  obtain ⟨t, d, r, ey, wy⟩ := hy.fin
  have hd : d ≠ 0 := fun z => hm ((whole_zero wy).mp z)
  refine ⟨s != t, ?_, fun h0 => by rw [whole_sign wx h0, whole_sign wy hm]⟩
  rw [show val64 (FP.ddiv x y) = _ from val64_ddiv x y, ex, ey]
  simp only [quotient, if_neg hd]
  refine roundRatio_congr (Nat.pos_of_ne_zero hd) (by omega) ?_
  have e1 := whole_natAbs wx
  have e2 := whole_natAbs wy
  have e3 : (q - r - (l - k)).toNat + ((-(q + k)).toNat + (r + l).toNat) = (l - k - (q - r)).toNat + ((q + k).toNat + (-(r + l)).toNat) := by omega
  apply Nat.eq_of_mul_eq_mul_right (Nat.two_pow_pos ((-(q + k)).toNat + (r + l).toNat))
  rw [Nat.mul_assoc, ← Nat.pow_add, e3, Nat.pow_add, Nat.pow_add, Nat.pow_add]
  generalize 2 ^ (l - k - (q - r)).toNat = P
  generalize 2 ^ (q + k).toNat = A at *
  generalize 2 ^ (-(q + k)).toNat = A' at *
  generalize 2 ^ (r + l).toNat = B at *
  generalize 2 ^ (-(r + l)).toNat = B' at *
  calc c * m.natAbs * (P * (A * B')) = (c * A) * (m.natAbs * B') * P := by simp only [Nat.mul_assoc, Nat.mul_comm, Nat.mul_left_comm]
    _ = (n.natAbs * A') * (d * B) * P := by rw [e1, e2]
    _ = n.natAbs * d * P * (A' * B) := by simp only [Nat.mul_assoc, Nat.mul_comm, Nat.mul_left_comm]
theorem sgn_of_quot {n m j : Int} {a b c : Nat} (ha : 0 < a) (hb : 0 < b) (hm : m ≠ 0) (h : n * (a : Int) = j * m * (b : Int)) (hj : j ≠ 0) : (n ≠ 0) ∧ decide (j < 0) = (decide (n < 0) != decide (m < 0)) := by
  have hn : n ≠ 0 := by
    intro z; rw [z, Int.zero_mul] at h
    have := Int.mul_eq_zero.mp h.symm
    rcases this with q | q
    · rcases Int.mul_eq_zero.mp q with q | q
      · exact hj q
      · exact hm q
    · omega
  refine ⟨hn, ?_⟩
  have ha' : (0 : Int) < a := by omega
  have hb' : (0 : Int) < b := by omega
  rcases Int.lt_or_gt_of_ne hj with q | q <;> rcases Int.lt_or_gt_of_ne hm with r | r <;> rcases Int.lt_or_gt_of_ne hn with t | t
  all_goals first
    | (simp [q, r, t]; done)
    | (simp [q, r, t, Int.not_lt.mpr (Int.le_of_lt q), Int.not_lt.mpr (Int.le_of_lt r), Int.not_lt.mpr (Int.le_of_lt t)]; done)
    | (simp [q, r, t, Int.not_lt.mpr (Int.le_of_lt q), Int.not_lt.mpr (Int.le_of_lt r)]; done)
    | (simp [q, r, t, Int.not_lt.mpr (Int.le_of_lt q), Int.not_lt.mpr (Int.le_of_lt t)]; done)
    | (simp [q, r, t, Int.not_lt.mpr (Int.le_of_lt r), Int.not_lt.mpr (Int.le_of_lt t)]; done)
    | (simp [q, r, t, Int.not_lt.mpr (Int.le_of_lt q)]; done)
    | (simp [q, r, t, Int.not_lt.mpr (Int.le_of_lt r)]; done)
    | (simp [q, r, t, Int.not_lt.mpr (Int.le_of_lt t)]; done)
    | (exfalso
       have s1 : n * (a : Int) < 0 ∨ 0 < n * (a : Int) := by
         rcases Int.lt_or_gt_of_ne hn with t | t
         · exact Or.inl (Int.mul_neg_of_neg_of_pos t ha')
         · exact Or.inr (Int.mul_pos t ha')
       first
       | (have u := Int.mul_neg_of_neg_of_pos (Int.mul_neg_of_neg_of_pos q r) hb'; have v := Int.mul_pos t ha'; omega)
       | (have u := Int.mul_neg_of_neg_of_pos (Int.mul_neg_of_pos_of_neg q r) hb'; have v := Int.mul_pos t ha'; omega)
       | (have u := Int.mul_pos (Int.mul_pos q r) hb'; have v := Int.mul_neg_of_neg_of_pos t ha'; omega)
       | (have u := Int.mul_pos (Int.mul_pos_of_neg_of_neg q r) hb'; have v := Int.mul_neg_of_neg_of_pos t ha'; omega))
/-- an exact quotient: x / y = j / 2^i -/
theorem Dy.div {n m j k l i : Int} {x y : UInt64} (u v : Nat) (hx : Dy n k x) (hy : Dy m l y) (hm : m ≠ 0) (huv : (u : Int) - v = l + i - k) (hv : n * ((2 ^ u : Nat) : Int) = j * m * ((2 ^ v : Nat) : Int)) (hj : j.natAbs < 2 ^ 53) (hi : -900 ≤ i ∧ i ≤ 1000) : Dy j i (FP.ddiv x y) := by
  obtain ⟨s, e, hs⟩ := hx.quot hy hm
  unfold Dy
  rw [e]
  have hva : n.natAbs * 2 ^ u = j.natAbs * m.natAbs * 2 ^ v := by
    have := congrArg Int.natAbs hv
    rw [Int.natAbs_mul, Int.natAbs_mul, Int.natAbs_mul, Int.natAbs_natCast, Int.natAbs_natCast] at this
    exact this
  have e2 : roundRatio b64 s n.natAbs m.natAbs (l - k) = round b64 (.fin s j.natAbs (-i)) := by
    show _ = roundRatio b64 s j.natAbs 1 (-i)
    refine roundRatio_congr (by omega) (by decide) ?_
    rw [Nat.mul_one]
    have e3 : (l - k - -i).toNat + v = (-i - (l - k)).toNat + u := by omega
    apply Nat.eq_of_mul_eq_mul_right (Nat.two_pow_pos v)
    rw [Nat.mul_assoc, ← Nat.pow_add, e3, Nat.pow_add]
    generalize 2 ^ (-i - (l - k)).toNat = W
    calc n.natAbs * (W * 2 ^ u) = (n.natAbs * 2 ^ u) * W := by simp only [Nat.mul_assoc, Nat.mul_comm, Nat.mul_left_comm]
      _ = j.natAbs * m.natAbs * 2 ^ v * W := by rw [hva]
      _ = j.natAbs * m.natAbs * W * 2 ^ v := by simp only [Nat.mul_assoc, Nat.mul_comm, Nat.mul_left_comm]
  rw [e2]
  refine round_dy ?_ hj hi
  show signed s (j.natAbs * 2 ^ (-i + i).toNat) = j * ((2 ^ (-(-i + i)).toNat : Nat) : Int)
  rw [show (-i + i) = 0 by omega]
  simp only [Int.toNat_zero, Nat.pow_zero, Nat.mul_one, Int.neg_zero, Int.natCast_one, Int.mul_one]
  refine signed_natAbs fun h0 => ?_
  obtain ⟨hn, hsg⟩ := sgn_of_quot (c := 0) (Nat.two_pow_pos u) (Nat.two_pow_pos v) hm hv h0
  rw [hs hn, hsg]
end Jvm.Pilot.@@N@@.Dyad
namespace Jvm.Pilot.@@N@@.Dyad
open Jvm Jvm.FP Jvm.FP.Core
theorem Dy.of_fin {x : UInt64} {s : Bool} {c : Nat} {q : Int} (h : val64 x = .fin s c q) : Dy (signed s c) (-q) x := by
  unfold Dy; rw [h]
  show signed s (c * 2 ^ (q + -q).toNat) = signed s c * ((2 ^ (-(q + -q)).toNat : Nat) : Int)
  rw [show q + -q = 0 by omega]; simp
theorem Dy.of_zero {x : UInt64} {s : Bool} {q : Int} (h : val64 x = .fin s 0 q) (k : Int) : Dy 0 k x := by
  unfold Dy; rw [h]
  show signed s (0 * 2 ^ (q + k).toNat) = 0 * ((2 ^ (-(q + k)).toNat : Nat) : Int)
  rw [Nat.zero_mul, signed_zero, Int.zero_mul]
theorem l2d_form (v : Int64) (h : v.toInt ≠ 0) : ∃ s c q, val64 (FP.l2d v) = .fin s c q ∧ c ≠ 0 ∧ c < 2 ^ 53 ∧ -60 ≤ q ∧ q ≤ 20 := by
  have hm := l2d_mag v
  have hb := (l2d_big h).1
  have hE : fieldE b64 (FP.l2d v).toNat = ((FP.l2d v).toNat % 2 ^ 63) / 2 ^ 52 := by rw [fieldE_mag, mag_toNat64, tails_b64]
  have hE1 : 1023 ≤ fieldE b64 (FP.l2d v).toNat := by rw [hE]; exact (Nat.le_div_iff_mul_le (by decide)).mpr hb
  have hE2 : fieldE b64 (FP.l2d v).toNat < 1088 := by rw [hE]; exact (Nat.div_lt_iff_lt_mul (by decide)).mpr hm
  have hx : b64.exps - 1 = 2047 := exps_b64
  have ht : fieldT b64 (FP.l2d v).toNat < b64.tails := fieldT_lt _ _
  rw [tails_b64] at ht
  refine ⟨fieldS b64 (FP.l2d v).toNat, b64.tails + fieldT b64 (FP.l2d v).toNat, b64.qmin + ((fieldE b64 (FP.l2d v).toNat : Int) - 1), ?_, ?_, ?_, ?_, ?_⟩
  · show decode b64 (FP.l2d v).toNat = _
    unfold decode
    rw [if_neg (by omega), if_neg (by omega)]
  · rw [tails_b64]; omega
  · rw [tails_b64]; omega
  · rw [qmin_b64]; omega
  · rw [qmin_b64]; omega
/-- equal quotients of equal values -/
theorem quot_eq {n m k l n' m' k' l' : Int} {x y x' y' : UInt64} (hx : Dy n k x) (hy : Dy m l y) (hx' : Dy n' k' x') (hy' : Dy m' l' y') (hm : m ≠ 0) (en : n' = n) (em : m' = m) (ek : l' - k' = l - k) (o : Jvm.ClassFile.CmpOp) : Op.cmpValue (FP.dcmp (FP.ddiv x y) (FP.ddiv x' y')) o = 0 := by
  subst en em
  obtain ⟨s, e, hs⟩ := hx.quot hy hm
  obtain ⟨s', e', hs'⟩ := hx'.quot hy' hm
  by_cases h0 : n' = 0
  · subst h0
    have z : ∀ (s : Bool) (B : Nat) (q : Int), roundRatio b64 s (0 : Int).natAbs B q = .fin s 0 b64.qmin := fun s B q => by unfold roundRatio; exact if_pos rfl
    rw [z] at e e'
    exact (Dy.of_zero e 0).eq (Dy.of_zero e' 0) rfl o
  · have : val64 (FP.ddiv x y) = val64 (FP.ddiv x' y') := by rw [e, e', hs h0, hs' h0, ek]
    have e2 : FP.dcmp (FP.ddiv x y) (FP.ddiv x' y') = some .eq := by
      show order (val64 _) (val64 _) = _
      rw [← this]; exact order_self (by rw [e]; exact roundRatio_ne_nan _ _ _ _ _)
    rw [e2]; rfl
theorem quot_no {n m k l : Int} {x y : UInt64} (hx : Dy n k x) (hy : Dy m l y) (hm : m ≠ 0) : Jvm.Free.Fl.NoNaN64 (FP.ddiv x y) := by
  obtain ⟨s, e, -⟩ := hx.quot hy hm
  exact Jvm.Free.Fl.val64_no.mpr (by rw [e]; exact roundRatio_ne_nan _ _ _ _ _)
theorem dy0 : Dy 0 0 FP.dconst0 := Dy.lit (n := 0) (by decide +kernel) rfl (by decide)
theorem dy1 : Dy 1 0 FP.dconst1 := Dy.lit (n := 1) (by decide +kernel) rfl (by decide)
theorem dy4 : Dy 4 0 (4616189618054758400 : UInt64) := Dy.lit (n := 4) (by decide +kernel) rfl (by decide)
theorem dy8 : Dy 8 0 (4620693217682128896 : UInt64) := Dy.lit (n := 8) (by decide +kernel) rfl (by decide)
theorem dy1024 : Dy 1024 0 (4652218415073722368 : UInt64) := Dy.lit (n := 1024) (by decide +kernel) rfl (by decide)
/-- a whole number over a power of two -/
theorem div8 {x : UInt64} {n : Int} (h : Dy n 0 x) (hn : n.natAbs < 2 ^ 53) : Dy n 3 (FP.ddiv x (4620693217682128896 : UInt64)) := h.div 3 0 dy8 (by decide) (by decide) (by omega) hn (by decide)
theorem div4 {x : UInt64} {n : Int} (h : Dy n 0 x) (hn : n.natAbs < 2 ^ 53) : Dy n 2 (FP.ddiv x (4616189618054758400 : UInt64)) := h.div 2 0 dy4 (by decide) (by decide) (by omega) hn (by decide)
theorem div1024 {x : UInt64} {n : Int} (h : Dy n 0 x) (hn : n.natAbs < 2 ^ 53) : Dy n 10 (FP.ddiv x (4652218415073722368 : UInt64)) := h.div 10 0 dy1024 (by decide) (by decide) (by omega) hn (by decide)
theorem i32_53 (a : Int32) : a.toInt.natAbs < 2 ^ 53 := by have := RoadKit.rng32 a; omega
end Jvm.Pilot.@@N@@.Dyad
namespace Jvm.Pilot.@@N@@.Dyad
open Jvm Jvm.FP Jvm.FP.Core
/-- (long) x of a number that is not below nought -/
theorem Dy.d2l {n : Int} {k : Nat} {x : UInt64} (h : Dy n k x) (hn : 0 ≤ n) (P : Int) (hP : P = ((2 ^ k : Nat) : Int)) (hb : n / P < 9223372036854775808) : (FP.d2l x).toInt = n / P := by
  subst hP
  obtain ⟨s, c, q, e, w⟩ := h.fin
  have hw := whole_natAbs w
  have e1 : c * 2 ^ q.toNat / 2 ^ (-q).toNat = n.natAbs / 2 ^ k := by
    have e3 : q.toNat + k + (-(q + k)).toNat = (-q).toNat + (q + k).toNat := by omega
    have e4 : c * 2 ^ q.toNat * 2 ^ k = n.natAbs * 2 ^ (-q).toNat := by
      apply Nat.eq_of_mul_eq_mul_right (Nat.two_pow_pos (q + k).toNat)
      calc c * 2 ^ q.toNat * 2 ^ k * 2 ^ (q + k).toNat = (c * 2 ^ (q + k).toNat) * (2 ^ q.toNat * 2 ^ k) := by simp only [Nat.mul_assoc, Nat.mul_comm, Nat.mul_left_comm]
        _ = (n.natAbs * 2 ^ (-(q + k)).toNat) * (2 ^ q.toNat * 2 ^ k) := by rw [hw]
        _ = n.natAbs * (2 ^ (q.toNat + k + (-(q + k)).toNat)) := by rw [Nat.pow_add, Nat.pow_add]; simp only [Nat.mul_assoc, Nat.mul_comm, Nat.mul_left_comm]
        _ = n.natAbs * (2 ^ ((-q).toNat + (q + k).toNat)) := by rw [e3]
        _ = n.natAbs * 2 ^ (-q).toNat * 2 ^ (q + k).toNat := by rw [Nat.pow_add, Nat.mul_assoc]
    have p1 := Nat.two_pow_pos k
    have p2 := Nat.two_pow_pos (-q).toNat
    calc c * 2 ^ q.toNat / 2 ^ (-q).toNat = c * 2 ^ q.toNat * 2 ^ k / (2 ^ (-q).toNat * 2 ^ k) := (Nat.mul_div_mul_right _ _ p1).symm
      _ = n.natAbs * 2 ^ (-q).toNat / (2 ^ k * 2 ^ (-q).toNat) := by rw [e4, Nat.mul_comm (2 ^ (-q).toNat)]
      _ = n.natAbs / 2 ^ k := Nat.mul_div_mul_right _ _ p2
  have e2 : truncate s c q = n / ((2 ^ k : Nat) : Int) := by
    unfold truncate
    rw [e1]
    have e5 : ((n.natAbs / 2 ^ k : Nat) : Int) = n / ((2 ^ k : Nat) : Int) := by rw [Int.natCast_ediv, Int.natAbs_of_nonneg hn]
    by_cases h0 : n = 0
    · subst h0; rw [show (0 : Int).natAbs = 0 from rfl, Nat.zero_div, signed_zero, Int.zero_ediv]
    · rw [whole_sign w h0, decide_eq_false (by omega : ¬ n < 0)]; exact e5
  have h0 : 0 ≤ n / ((2 ^ k : Nat) : Int) := Int.ediv_nonneg hn (Int.natCast_nonneg _)
  show (toL (val64 x)).toInt = _
  rw [e]
  show (Int64.ofInt (max (-2 ^ 63) (min (2 ^ 63 - 1) (truncate s c q)))).toInt = _
  rw [e2]
  generalize n / ((2 ^ k : Nat) : Int) = D at *
  rw [show max (-2 ^ 63) (min (2 ^ 63 - 1) D) = D by omega]
  exact Int64.toInt_ofInt_of_le (by omega) (by omega)
end Jvm.Pilot.@@N@@.Dyad
namespace Jvm.Pilot.@@N@@
open Jvm Jvm.ClassFile Sem Op Lib Jvm.Free Jvm.Stand Jvm.LawKit Jvm.RoadKit Bundle Jvm.Pilot.@@N@@.Jvm.D
def own_K (p : Program) (e : Env) (below : List Frame) (A B : State) : Prop := ∀ t, Steps p.tables e below A t → Steps p.tables e below B t
theorem own_ifT_eq {x : Int32} (h : x = 0) : ifCond.holds .eq x = true := by simp [ifCond.holds, h]
theorem own_ifF_eq {x : Int32} (h : ¬ x = 0) : ifCond.holds .eq x = false := by simp [ifCond.holds, h]
theorem own_ifT_ne {x : Int32} (h : ¬ x = 0) : ifCond.holds .ne x = true := by simp [ifCond.holds, h]
theorem own_ifF_ne {x : Int32} (h : x = 0) : ifCond.holds .ne x = false := by simp [ifCond.holds, h]
theorem own_ifT_lt {x : Int32} (h : x < 0) : ifCond.holds .lt x = true := by simp [ifCond.holds, h]
theorem own_ifF_lt {x : Int32} (h : ¬ x < 0) : ifCond.holds .lt x = false := by simp [ifCond.holds, h]
theorem own_ifT_ge {x : Int32} (h : ¬ x < 0) : ifCond.holds .ge x = true := by simp [ifCond.holds, Int32.not_lt.mp h]
theorem own_ifF_ge {x : Int32} (h : x < 0) : ifCond.holds .ge x = false := by simp [ifCond.holds, Int32.not_le.mpr h]
theorem own_ifT_gt {x : Int32} (h : 0 < x) : ifCond.holds .gt x = true := by simp [ifCond.holds, h]
theorem own_ifF_gt {x : Int32} (h : ¬ 0 < x) : ifCond.holds .gt x = false := by simp [ifCond.holds, h]
theorem own_ifT_le {x : Int32} (h : ¬ 0 < x) : ifCond.holds .le x = true := by simp [ifCond.holds, Int32.not_lt.mp h]
theorem own_ifF_le {x : Int32} (h : 0 < x) : ifCond.holds .le x = false := by simp [ifCond.holds, Int32.not_le.mpr h]
theorem own_icT_eq {x y : Int32} (h : x = y) : if_icmp.holds .eq x y = true := by simp [if_icmp.holds, h]
theorem own_icF_eq {x y : Int32} (h : ¬ x = y) : if_icmp.holds .eq x y = false := by simp [if_icmp.holds, h]
theorem own_icT_ne {x y : Int32} (h : ¬ x = y) : if_icmp.holds .ne x y = true := by simp [if_icmp.holds, h]
theorem own_icF_ne {x y : Int32} (h : x = y) : if_icmp.holds .ne x y = false := by simp [if_icmp.holds, h]
theorem own_icT_lt {x y : Int32} (h : x < y) : if_icmp.holds .lt x y = true := by simp [if_icmp.holds, h]
theorem own_icF_lt {x y : Int32} (h : ¬ x < y) : if_icmp.holds .lt x y = false := by simp [if_icmp.holds, h]
theorem own_icT_ge {x y : Int32} (h : ¬ x < y) : if_icmp.holds .ge x y = true := by simp [if_icmp.holds, Int32.not_lt.mp h]
theorem own_icF_ge {x y : Int32} (h : x < y) : if_icmp.holds .ge x y = false := by simp [if_icmp.holds, Int32.not_le.mpr h]
theorem own_icT_gt {x y : Int32} (h : y < x) : if_icmp.holds .gt x y = true := by simp [if_icmp.holds, h]
theorem own_icF_gt {x y : Int32} (h : ¬ y < x) : if_icmp.holds .gt x y = false := by simp [if_icmp.holds, h]
theorem own_icT_le {x y : Int32} (h : ¬ y < x) : if_icmp.holds .le x y = true := by simp [if_icmp.holds, Int32.not_lt.mp h]
theorem own_icF_le {x y : Int32} (h : y < x) : if_icmp.holds .le x y = false := by simp [if_icmp.holds, Int32.not_le.mpr h]
theorem own_at {p : Program} {e : Env} {below : List Frame} {A B t : State} (h : B = A) (q : Steps p.tables e below B t) : Steps p.tables e below A t := h ▸ q
abbrev rO (f c s l : Nat) : Room := { frames := f, cells := c, slots := s, locals := l }
abbrev own_Met (l : Launch) (y : MethodName) (code : ByteArray) (ml : Nat) (ret : Option FieldType) (ws : List Jvm.Cond) (rm : Room) (as' : Array Value) (Z : State) (h0 : Heap) (Q : Option Value → Heap → List Loc → Prop) : Prop :=
  MetFree l y (head1 (Jvm.Cond.code y code ml ret :: ws) rm) (fun ar_ U => ar_ = as' ∧ Z.Warmed39 U.vm ∧ U.heap = h0) (fun _ _ _ _ _ => True) (fun _ U o U' => ∃ v L, o = .returned v ∧ Q v U'.heap L ∧ FrameEnd U o U' L rm.cells rm.slots)
theorem own_InsKeep {Z : State} {h h' : Heap} {b : Addr} {C : String} {bo : Bool} {ws : List Addr} (F : Ins Z h b C bo) (K : Keep h h' ws) (q : b ∉ ws) : Ins Z h' b C bo := by obtain ⟨cell, k, h1, r⟩ := F; exact ⟨cell, k, K.2.1 _ _ h1 q, r⟩
theorem wT {Z : State} {a0 : Array Value} (hw : ∀ d ∈ tables_1, d.before a0 Z = true) (i : Nat) {d : Jvm.Cond} (h : tables_1[i]? = some d) : d.before a0 Z = true := hw d (List.mem_of_getElem? h)
theorem own_mvNest {Z s : State} {a0 args : Array Value} {own host : String} {index : Nat} {y : MethodName} (hZ : Z.Warmed39 s.vm) (w : (Cond.methodLinkNest own index y host).before a0 Z = true) : (Cond.methodLinkNest own index y host).before args s = true := (Cond.methodLinkNest_wide hZ w :)
theorem own_pop2 {tb : Tables} [Ours tb] {e : Env} {below : List Frame} {T target : State} {m : MethodId} {c : Code} {g : JFrame} (h : At T m c below) (hx : tb.exec = Jvm.exec) (hg : g.method = m) {x : UInt64} {rest : List Value} (hd : decode c.code g.pc = .ok (.pop2, 1)) (hs : g.stack = .double x :: rest)
    (hr : Steps tb e below (T.setTop { g with pc := g.pc + 1, stack := rest }) target) : Steps tb e below (T.setTop g) target := by
  subst hg
  jvm_step h [h.top, hx, hd, hs, Value.category]
  exact hr
open Jvm.Pilot.@@N@@.Dyad
theorem own_msk31 (x : Int32) : 0 ≤ (x &&& (2147483647 : Int32)).toInt ∧ (x &&& (2147483647 : Int32)).toInt < 2147483648 := by
  have h1 := c_mask x (2147483647 : Int32) 31 (by decide) (by decide)
  rw [h1]; omega
abbrev own_A (w : Int32) : Int32 := (1 : Int32) + ((w &&& (2147483647 : Int32)) % (7 : Int32))
theorem own_A_rng (w : Int32) : 1 ≤ (own_A w).toInt ∧ (own_A w).toInt ≤ 7 := by
  have h1 := own_msk31 w
  have h2 := (c_irem (w &&& (2147483647 : Int32)) (7 : Int32) 7 rfl).1 h1.1
  have h3 := c_iadd (1 : Int32) ((w &&& (2147483647 : Int32)) % (7 : Int32))
  have h4 := rng32 ((1 : Int32) + ((w &&& (2147483647 : Int32)) % (7 : Int32)))
  rw [h2, show (1 : Int32).toInt = 1 from rfl] at h3
  unfold own_A
  generalize ((1 : Int32) + ((w &&& (2147483647 : Int32)) % (7 : Int32))).toInt = K at *
  generalize (w &&& (2147483647 : Int32)).toInt = M at *
  omega
abbrev own_C (r : Int32) : Int32 := (r &&& (1048575 : Int32))
theorem own_C_rng (x : Int32) : 0 ≤ (own_C x).toInt ∧ (own_C x).toInt < 1048576 := by
  have h1 := c_mask x (1048575 : Int32) 20 (by decide) (by decide)
  unfold own_C; rw [h1]; omega
abbrev own_bg (r : Int32) : UInt64 := FP.ddiv (FP.i2d (own_C r)) (4620693217682128896 : UInt64)
theorem own_bg_dy (r : Int32) : Dy (own_C r).toInt 3 (own_bg r) := div8 (Dy.i2d _) (i32_53 _)
abbrev own_W (w : Int32) : UInt64 := FP.ddiv (FP.i2d (own_A w)) (4620693217682128896 : UInt64)
theorem own_W_dy (w : Int32) : Dy (own_A w).toInt 3 (own_W w) := div8 (Dy.i2d _) (i32_53 _)
theorem own_W_gt (w : Int32) : cmpValue (FP.dcmp (own_W w) FP.dconst0) .l = 1 := (own_W_dy w).gt (dy0.up 3 rfl rfl) (by have := own_A_rng w; omega) _
theorem own_W_lt (w : Int32) : cmpValue (FP.dcmp (own_W w) FP.dconst1) .g = -1 := (own_W_dy w).lt (dy1.up (m := 8) 3 rfl rfl) (by have := own_A_rng w; omega) _
/-- what the walk hands on: the frequency f and the length n, with the exact quotient -/
def own_ok (w r f n : Int32) : Prop := 0 ≤ f.toInt ∧ 1 ≤ n.toInt ∧ ((∃ K : Nat, K ≤ 30 ∧ n.toInt = ((2 ^ K : Nat) : Int)) ∨ f.toInt = n.toInt ∨ f.toInt = 0)
theorem own_af (w f : Int32) (h : 0 ≤ f.toInt) : 0 ≤ (own_A w).toInt * f.toInt ∧ (own_A w).toInt * f.toInt ≤ 7 * 2147483648 := by
  have h1 := own_A_rng w
  have h2 := rng32 f
  exact ⟨Int.mul_nonneg (by omega) h, Int.mul_le_mul (by omega) (by omega) h (by decide)⟩
theorem own_cn (r n : Int32) (h : 1 ≤ n.toInt) : 0 ≤ (own_C r).toInt * n.toInt ∧ (own_C r).toInt * n.toInt ≤ 1048576 * 2147483648 := by
  have h1 := own_C_rng r
  have h2 := rng32 n
  exact ⟨Int.mul_nonneg (by omega) (by omega), Int.mul_le_mul (by omega) (by omega) (by omega) (by decide)⟩
theorem own_mul_dy (w f : Int32) (h : 0 ≤ f.toInt) : Dy ((own_A w).toInt * f.toInt) 3 (FP.dmul (own_W w) (FP.i2d f)) := by
  have b := own_af w f h
  have := (own_W_dy w).mul (Dy.i2d f) (by omega) (by decide)
  rwa [Int.add_zero] at this
abbrev own_num (w r f n : Int32) : Int64 := (((own_A w).toInt64) * (f.toInt64)) + (((own_C r).toInt64) * (n.toInt64))
abbrev own_den (n : Int32) : Int64 := (8 : Int64) * (n.toInt64)
theorem own_num_val (w r f n : Int32) (h : 0 ≤ f.toInt) (h' : 1 ≤ n.toInt) : (own_num w r f n).toInt = (own_A w).toInt * f.toInt + (own_C r).toInt * n.toInt := by
  have b1 := own_af w f h
  have b2 := own_cn r n h'
  have h1 := c_lmul ((own_A w).toInt64) (f.toInt64)
  have h2 := c_lmul ((own_C r).toInt64) (n.toInt64)
  have h3 := c_ladd (((own_A w).toInt64) * (f.toInt64)) (((own_C r).toInt64) * (n.toInt64))
  have r1 := rng64 (((own_A w).toInt64) * (f.toInt64))
  have r2 := rng64 (((own_C r).toInt64) * (n.toInt64))
  have r3 := rng64 (own_num w r f n)
  rw [c_i2l, c_i2l] at h1 h2
  unfold own_num at *
  generalize (own_A w).toInt * f.toInt = X at *
  generalize (own_C r).toInt * n.toInt = Y at *
  omega
theorem own_den_val (n : Int32) : (own_den n).toInt = 8 * n.toInt := by
  have h1 := c_lmul (8 : Int64) (n.toInt64)
  have r1 := rng64 (own_den n)
  have r2 := rng32 n
  rw [c_i2l, show (8 : Int64).toInt = 8 from rfl] at h1
  unfold own_den at *
  omega
/-- the two answers as one number -/
theorem own_both (w r f n : Int32) (ok : own_ok w r f n) : ∃ (j i : Int), Dy j i (FP.ddiv (FP.dmul (own_W w) (FP.i2d f)) (FP.i2d n)) ∧ ∃ (t i' : Int), Dy t i' (FP.dadd (FP.ddiv (FP.dmul (own_W w) (FP.i2d f)) (FP.i2d n)) (own_bg r)) ∧ Dy t i' (FP.ddiv (FP.l2d (own_num w r f n)) (FP.l2d (own_den n))) := by
  obtain ⟨hf, hn, hc⟩ := ok
  have b1 := own_af w f hf
  have b2 := own_cn r n hn
  have rA := own_A_rng w
  have rC := own_C_rng r
  have rn := rng32 n
  have hm := own_mul_dy w f hf
  have hN : Dy ((own_A w).toInt * f.toInt + (own_C r).toInt * n.toInt) 0 (FP.l2d (own_num w r f n)) := (Dy.l2d (by rw [own_num_val w r f n hf hn]; omega)).cast (own_num_val w r f n hf hn)
  have hD : Dy (8 * n.toInt) 0 (FP.l2d (own_den n)) := (Dy.l2d (by rw [own_den_val]; omega)).cast (own_den_val n)
  rcases hc with ⟨K, hK, eK⟩ | hc
  · have hd : Dy 1 (-(K : Int)) (FP.i2d n) := ((Dy.i2d n).cast eK).down K (by omega) (by omega)
    have hq : Dy ((own_A w).toInt * f.toInt) (3 + K) (FP.ddiv (FP.dmul (own_W w) (FP.i2d f)) (FP.i2d n)) := hm.div 0 0 hd (by decide) (by omega) (by omega) (by omega) (by omega)
    refine ⟨_, _, hq, (own_A w).toInt * f.toInt + (own_C r).toInt * n.toInt, 3 + K, ?_, ?_⟩
    · have hb : Dy ((own_C r).toInt * n.toInt) (3 + K) (own_bg r) := (own_bg_dy r).up K rfl (by rw [eK])
      exact hq.add hb (by omega) (by omega)
    · have hd2 : Dy 1 (-(3 + K : Int)) (FP.l2d (own_den n)) := hD.down (3 + K) (by omega) (by rw [eK, Nat.pow_add]; omega)
      exact hN.div 0 0 hd2 (by decide) (by omega) (by omega) (by omega) (by omega)
  · have hJ : ∃ J : Int, 0 ≤ J ∧ J ≤ 7 ∧ (own_A w).toInt * f.toInt = J * n.toInt := by
      rcases hc with q | q
      · exact ⟨(own_A w).toInt, by omega, by omega, by rw [q]⟩
      · exact ⟨0, by omega, by omega, by rw [q]; omega⟩
    obtain ⟨J, J0, J7, eJ⟩ := hJ
    have hq : Dy J 3 (FP.ddiv (FP.dmul (own_W w) (FP.i2d f)) (FP.i2d n)) := hm.div 0 0 (Dy.i2d n) (by omega) (by decide) (by rw [eJ]) (by omega) (by decide)
    refine ⟨_, _, hq, J + (own_C r).toInt, 3, hq.add (own_bg_dy r) (by omega) (by decide), ?_⟩
    refine hN.div 3 0 hD (by omega) (by decide) ?_ (by omega) (by decide)
    rw [eJ, ← Int.add_mul, show ((2 ^ 3 : Nat) : Int) = 8 from rfl, show ((2 ^ 0 : Nat) : Int) = 1 from rfl, Int.mul_one, Int.mul_assoc, Int.mul_comm n.toInt 8]
theorem own_no1 (w r f n : Int32) (ok : own_ok w r f n) : Jvm.Free.Fl.NoNaN64 (FP.dmul (own_W w) (FP.i2d f)) := (own_mul_dy w f ok.1).no
theorem own_no2 (w r f n : Int32) (ok : own_ok w r f n) : Jvm.Free.Fl.NoNaN64 (FP.ddiv (FP.dmul (own_W w) (FP.i2d f)) (FP.i2d n)) := by
  obtain ⟨j, i, h, -⟩ := own_both w r f n ok; exact h.no
theorem own_no3 (w r f n : Int32) (ok : own_ok w r f n) : Jvm.Free.Fl.NoNaN64 (FP.dadd (FP.ddiv (FP.dmul (own_W w) (FP.i2d f)) (FP.i2d n)) (own_bg r)) := by
  obtain ⟨j, i, -, t, i', h, -⟩ := own_both w r f n ok; exact h.no
theorem own_no4 (w r f n : Int32) (ok : own_ok w r f n) : Jvm.Free.Fl.NoNaN64 (FP.ddiv (FP.l2d (own_num w r f n)) (FP.l2d (own_den n))) := by
  obtain ⟨j, i, -, t, i', -, h⟩ := own_both w r f n ok; exact h.no
theorem own_fin (w r f n : Int32) (ok : own_ok w r f n) : cmpValue (FP.dcmp (FP.dadd (FP.ddiv (FP.dmul (own_W w) (FP.i2d f)) (FP.i2d n)) (own_bg r)) (FP.ddiv (FP.l2d (own_num w r f n)) (FP.l2d (own_den n)))) .l = 0 := by
  obtain ⟨j, i, -, t, i', h, h'⟩ := own_both w r f n ok; exact h.eq h' rfl _
abbrev own_len1 (e : Int32) : Int32 := ((1 : Int32) <<< (((e &&& (31 : Int32)) % (31 : Int32)) &&& 31))
theorem own_len1_val (e : Int32) : ∃ K : Nat, K ≤ 30 ∧ (own_len1 e).toInt = ((2 ^ K : Nat) : Int) := by
  have h1 := c_mask e (31 : Int32) 5 (by decide) (by decide)
  have h2 := (c_irem (e &&& (31 : Int32)) (31 : Int32) 31 rfl).1 (by rw [h1]; omega)
  have h3 : 0 ≤ ((e &&& (31 : Int32)) % (31 : Int32)).toInt ∧ ((e &&& (31 : Int32)) % (31 : Int32)).toInt < 31 := by rw [h2]; omega
  unfold own_len1
  generalize ((e &&& (31 : Int32)) % (31 : Int32)) = q at h3
  have all : ∀ i : Fin 31, ((1 : Int32) <<< (Int32.ofNat i.val &&& 31)).toInt = ((2 ^ i.val : Nat) : Int) := by decide +kernel
  refine ⟨q.toInt.toNat, by omega, ?_⟩
  have e1 : q = Int32.ofNat q.toInt.toNat := by
    apply Int32.toInt_inj.mp
    rw [Int32.toInt_ofNat_of_lt (by omega)]; omega
  have := all ⟨q.toInt.toNat, by omega⟩
  rw [← e1] at this
  exact this
theorem own_ok1 (w r e s : Int32) : own_ok w r (s &&& (2147483647 : Int32)) (own_len1 e) := by
  obtain ⟨K, hK, eK⟩ := own_len1_val e
  have p := Nat.two_pow_pos K
  exact ⟨(own_msk31 s).1, by rw [eK]; omega, Or.inl ⟨K, hK, eK⟩⟩
def own_max (a b : Int32) : Int32 := if a < b then b else a
theorem own_max_ge (b : Int32) : 1 ≤ (own_max (1 : Int32) b).toInt := by
  unfold own_max
  by_cases h : (1 : Int32) < b
  · rw [if_pos h]; have := Int32.lt_iff_toInt_lt.mp h; rw [show (1 : Int32).toInt = 1 from rfl] at this; omega
  · rw [if_neg h]; decide
theorem own_ok2 (w r p : Int32) : own_ok w r (own_max (1 : Int32) p) (own_max (1 : Int32) p) := by
  have := own_max_ge p
  exact ⟨by omega, this, Or.inr (Or.inl rfl)⟩
theorem own_ok3 (w r p : Int32) : own_ok w r (0 : Int32) (own_max (1 : Int32) p) := ⟨by decide, own_max_ge p, Or.inr (Or.inr rfl)⟩

def Q_rmR (h0 : Heap) (n0 : Nat) (v : Option Value) (h : Heap) (L : List Loc) : Prop := v = none ∧ Fr n0 L ∧ h = h0
theorem own_h1 : decode jdk_30_method_1_code 0 = .ok (.aload_n 0, 1) := by decide +kernel
theorem own_h2 : decode jdk_30_method_1_code 1 = .ok (.invokespecial 1, 3) := by decide +kernel
theorem own_h3 : decode jdk_30_method_1_code 4 = .ok (.return_, 1) := by decide +kernel
theorem own_h4 : plainName "java/lang/Record" = true := by first | (simp [plainName, overriddenIn]; done) | decide +kernel
theorem own_h5 : parseMethodDescriptor "(D)V" = some ⟨[.double], none⟩ := by decide +kernel
theorem own_h6 : parseMethodDescriptor "()V" = some ⟨[], none⟩ := by decide +kernel
theorem own_h7 : parseMethodDescriptor "(IID)D" = some ⟨[.int, .int, .double], some .double⟩ := by decide +kernel
theorem own_h8 : parseMethodDescriptor "(II)I" = some ⟨[.int, .int], some .int⟩ := by decide +kernel
set_option maxRecDepth 65536 in
set_option maxHeartbeats 40000000 in
theorem rmR (l : Launch) (Z : State) (a0 : Array Value) (hw : ∀ d ∈ tables_1, d.before a0 Z = true) (ws : List Jvm.Cond) (a : Addr) (h0 : Heap) (n0 : Nat) (Z0 : n0 ≤ h0.size) :
    MetFree l (⟨"java/lang/Record", "<init>", "()V"⟩ : MethodName) (head1 (Jvm.Cond.code (⟨"java/lang/Record", "<init>", "()V"⟩ : MethodName) jdk_30_method_1_code 1 none :: ws) ({ frames := 1, cells := 0, slots := 0, locals := 12 } : Room)) (fun ar_ U => ar_ = #[(.ref a)] ∧ Z.Warmed39 U.vm ∧ U.heap = h0) (fun _ _ _ _ _ => True) (fun _ U o U' => ∃ v L, o = .returned v ∧ Q_rmR h0 n0 v U'.heap L ∧ FrameEnd U o U' L ({ frames := 1, cells := 0, slots := 0, locals := 12 } : Room).cells ({ frames := 1, cells := 0, slots := 0, locals := 12 } : Room).slots) := by
  refine MetFree.of_bodySF (plainFor_of_name own_h4) hisR ?_
  intro p e s m args below meth c s₁ Bd hml0 hP hK
  obtain ⟨rfl, hZ, hh⟩ := hP
  have hx := Bd.exec
  have hby := Bd.bytes
  have hml : c.maxLocals = 1 := hml0
  have hown : s.vm.findClass "java/lang/Record" = some m.cls := findClass_of_methodNamed Bd.named
  have hnm := (name_of_methodNamed Bd.named Bd.method).1
  have X0 : Stand p l e ({ frames := 1, cells := 0, slots := 0, locals := 12 } : Room) s m #[(.ref a)] below meth c s₁ [] 0 0 := Stand.of_body Bd
  have e0 : s₁.heap = h0 := by rw [← hh, Bd.state]; rfl
  have N0 := Fr.nil n0
  have k0 : own_K p e below (s₁.setTop (mkF m 0 #[.val (.ref a)] [])) (s₁.setTop (entryFrame m #[(.ref a)] 1)) := fun t k => castTop (by clear k; first | (simp [entryFrame, mkF, argsToLocals, Value.category, maxLocals]; done) | rfl) k
  have k1 : own_K p e below (s₁.setTop (mkF m 1 #[.val (.ref a)] [(.ref a)])) (s₁.setTop (entryFrame m #[(.ref a)] 1)) := fun t hh => k0 t (by
    refine XS.aloadN X0.here hx rfl (hb hby own_h1) rfl rfl ?_
    show Steps p.tables e below (s₁.setTop (mkF m 1 #[.val (.ref a)] [(.ref a)])) _
    exact hh)
  obtain ⟨T1, X2, e3, st4⟩ := initO X0 hx hZ hown (wT hw 14 rfl) (wT hw 15 rfl) (wT hw 16 rfl) e0 (g := (mkF m 1 #[.val (.ref a)] [(.ref a)])) rfl (by rw [hml]; rfl) rfl (hb hby own_h2) (by decide) (W := 0) (by show 2 * 0 + _ ≤ _; exact Nat.le_of_eq rfl) (by decide)
  have k2 : own_K p e below (T1.setTop (mkF m 4 #[.val (.ref a)] [])) (s₁.setTop (entryFrame m #[(.ref a)] 1)) := fun t hh => k1 t (st4 t hh)
  obtain ⟨fs, hr, hrun, hended, hW, hsame⟩ := X2.leave (v := none) (fun _ => rfl)
  refine ⟨_, _, k2 _ (X2.returnOut hx Bd.returns (hb hby own_h3) hr), hrun, hended, _, _, rfl, ?_, ⟨_, rfl⟩, hW, hsame.mono (by decide) (by decide)⟩
  show Q_rmR h0 n0 _ T1.heap _
  rw [e3]
  exact ⟨rfl, N0, rfl⟩
def Q_rmC (Z : State) (a : Addr) (d : UInt64) (h0 : Heap) (n0 : Nat) (v : Option Value) (h : Heap) (L : List Loc) : Prop := v = none ∧ Fr n0 L ∧ Keep h0 h [a] ∧ Exa Z h a "com/example/geirfa/geirfa/retrieval/Smoothing$JelinekMercer" ∧ Fld Z h a "com/example/geirfa/geirfa/retrieval/Smoothing$JelinekMercer" "documentWeight" "D" (.double d)
theorem own_h9 : decode prog_29_method_1_code 0 = .ok (.aload_n 0, 1) := by decide +kernel
theorem own_h10 : decode prog_29_method_1_code 1 = .ok (.invokespecial 1, 3) := by decide +kernel
theorem own_h11 : decode prog_29_method_1_code 4 = .ok (.dload_n 1, 1) := by decide +kernel
theorem own_h12 : decode prog_29_method_1_code 5 = .ok (.dconst 0, 1) := by decide +kernel
theorem own_h13 : decode prog_29_method_1_code 6 = .ok (.dcmp .l, 1) := by decide +kernel
theorem own_h14 : decode prog_29_method_1_code 7 = .ok (.ifCond .le 9, 3) := by decide +kernel
theorem own_h15 : decode prog_29_method_1_code 10 = .ok (.dload_n 1, 1) := by decide +kernel
theorem own_h16 : decode prog_29_method_1_code 11 = .ok (.dconst 1, 1) := by decide +kernel
theorem own_h17 : decode prog_29_method_1_code 12 = .ok (.dcmp .g, 1) := by decide +kernel
theorem own_h18 : decode prog_29_method_1_code 13 = .ok (.ifCond .lt 17, 3) := by decide +kernel
theorem own_h19 : decode prog_29_method_1_code 16 = .ok (.new 7, 3) := by decide +kernel
theorem own_h20 : decode prog_29_method_1_code 19 = .ok (.dup, 1) := by decide +kernel
theorem own_h21 : decode prog_29_method_1_code 20 = .ok (.dload_n 1, 1) := by decide +kernel
theorem own_h22 : decode prog_29_method_1_code 21 = .ok (.invokedynamic 9, 5) := by decide +kernel
theorem own_h23 : decode prog_29_method_1_code 26 = .ok (.invokespecial 13, 3) := by decide +kernel
theorem own_h24 : decode prog_29_method_1_code 29 = .ok (.athrow, 1) := by decide +kernel
theorem own_h25 : decode prog_29_method_1_code 30 = .ok (.aload_n 0, 1) := by decide +kernel
theorem own_h26 : decode prog_29_method_1_code 31 = .ok (.dload_n 1, 1) := by decide +kernel
theorem own_h27 : decode prog_29_method_1_code 32 = .ok (.putfield 16, 3) := by decide +kernel
theorem own_h28 : decode prog_29_method_1_code 35 = .ok (.return_, 1) := by decide +kernel
theorem own_h29 : plainName "com/example/geirfa/geirfa/retrieval/Smoothing$JelinekMercer" = true := by first | (simp [plainName, overriddenIn]; done) | decide +kernel
set_option maxRecDepth 65536 in
set_option maxHeartbeats 40000000 in
theorem rmC (l : Launch) (Z : State) (a0 : Array Value) (hw : ∀ d ∈ tables_1, d.before a0 Z = true) (ws : List Jvm.Cond) (a : Addr) (d : UInt64) (h0 : Heap) (n0 : Nat) (Z0 : n0 ≤ h0.size) (F1 : Fld Z h0 a "com/example/geirfa/geirfa/retrieval/Smoothing$JelinekMercer" "documentWeight" "D" (.double (0 : UInt64))) (E1 : Exa Z h0 a "com/example/geirfa/geirfa/retrieval/Smoothing$JelinekMercer") (g1 : n0 ≤ a) (c1 : cmpValue (FP.dcmp d FP.dconst0) .l = 1) (c2 : cmpValue (FP.dcmp d FP.dconst1) .g = -1) :
    MetFree l (⟨"com/example/geirfa/geirfa/retrieval/Smoothing$JelinekMercer", "<init>", "(D)V"⟩ : MethodName) (head1 (Jvm.Cond.code (⟨"com/example/geirfa/geirfa/retrieval/Smoothing$JelinekMercer", "<init>", "(D)V"⟩ : MethodName) prog_29_method_1_code 3 none :: ws) ({ frames := 2, cells := 0, slots := 0, locals := 24 } : Room)) (fun ar_ U => ar_ = #[(.ref a), (.double d)] ∧ Z.Warmed39 U.vm ∧ U.heap = h0) (fun _ _ _ _ _ => True) (fun _ U o U' => ∃ v L, o = .returned v ∧ Q_rmC Z a d h0 n0 v U'.heap L ∧ FrameEnd U o U' L ({ frames := 2, cells := 0, slots := 0, locals := 24 } : Room).cells ({ frames := 2, cells := 0, slots := 0, locals := 24 } : Room).slots) := by
  refine MetFree.of_bodySF (plainFor_of_name own_h29) hisR ?_
  intro p e s m args below meth c s₁ Bd hml0 hP hK
  obtain ⟨rfl, hZ, hh⟩ := hP
  have hx := Bd.exec
  have hby := Bd.bytes
  have hml : c.maxLocals = 3 := hml0
  have hown : s.vm.findClass "com/example/geirfa/geirfa/retrieval/Smoothing$JelinekMercer" = some m.cls := findClass_of_methodNamed Bd.named
  have hnm := (name_of_methodNamed Bd.named Bd.method).1
  have X0 : Stand p l e ({ frames := 2, cells := 0, slots := 0, locals := 24 } : Room) s m #[(.ref a), (.double d)] below meth c s₁ [] 0 0 := Stand.of_body Bd
  have e0 : s₁.heap = h0 := by rw [← hh, Bd.state]; rfl
  have N0 := Fr.nil n0
  have k0 : own_K p e below (s₁.setTop (mkF m 0 #[.val (.ref a), .val (.double d), .second] [])) (s₁.setTop (entryFrame m #[(.ref a), (.double d)] 3)) := fun t k => castTop (by clear k; first | (simp [entryFrame, mkF, argsToLocals, Value.category, maxLocals]; done) | rfl) k
  have K0 : Keep h0 h0 [a] := Keep.refl _ _
  have k1 : own_K p e below (s₁.setTop (mkF m 1 #[.val (.ref a), .val (.double d), .second] [(.ref a)])) (s₁.setTop (entryFrame m #[(.ref a), (.double d)] 3)) := fun t hh => k0 t (by
    refine XS.aloadN X0.here hx rfl (hb hby own_h9) rfl rfl ?_
    show Steps p.tables e below (s₁.setTop (mkF m 1 #[.val (.ref a), .val (.double d), .second] [(.ref a)])) _
    exact hh)
  obtain ⟨_, _, ⟨T5, L6, k_7, n_8⟩, -, X9, ⟨Lc10, hQ11, l_12, y_13, z_14⟩, st15⟩ := X0.specialBack hx (y := (⟨"java/lang/Record", "<init>", "()V"⟩ : MethodName)) rfl hown (mvT hZ (wT hw 9 rfl)) (mvT hZ (wT hw 10 rfl)) (mvT hZ (wT hw 13 rfl)) (by decide) (backOf (W := 0) (rmR l Z a0 hw [] a h0 n0 Z0) hZ (wT hw 13 rfl) (wT hw 12 rfl) (by decide) (by decide)) (g := (mkF m 1 #[.val (.ref a), .val (.double d), .second] [(.ref a)])) rfl (by rw [hml]; rfl) (Steps.refl _) (a := a) (argsL := []) (rest := []) (lenOf own_h6 rfl) rfl (by show 2 * 0 + _ ≤ _; exact Nat.le_of_eq rfl) (hb hby own_h10) (fun _ _ => ⟨rfl, e0, (by decide : 0 + 0 ≤ _), (by decide : 0 + 0 ≤ _)⟩)
  dsimp only [Pt.U, Pt.locs, Pt.cells, Pt.slots] at X9 l_12 y_13 z_14 st15 hQ11
  subst l_12 y_13 z_14
  obtain ⟨rfl, N16, e17⟩ := hQ11
  have N18 := Fr.app N0 N16
  have k2 : own_K p e below (T5.setTop (mkF m 4 #[.val (.ref a), .val (.double d), .second] [])) (s₁.setTop (entryFrame m #[(.ref a), (.double d)] 3)) := fun t hh => k1 t (st15.trans hh)
  have k3 : own_K p e below (T5.setTop (mkF m 32 #[.val (.ref a), .val (.double d), .second] [(.double d), (.ref a)])) (s₁.setTop (entryFrame m #[(.ref a), (.double d)] 3)) := fun t hh => k2 t (by
    refine XS.dloadN X9.here hx rfl (hb hby own_h11) rfl ?_
    show Steps p.tables e below (T5.setTop (mkF m 5 #[.val (.ref a), .val (.double d), .second] [(.double d)])) _
    refine XS.dconst0 X9.here hx rfl (hb hby own_h12) rfl ?_
    show Steps p.tables e below (T5.setTop (mkF m 6 #[.val (.ref a), .val (.double d), .second] [(.double FP.dconst0), (.double d)])) _
    refine XS.dcmpS X9.here hx rfl (hb hby own_h13) rfl c1 ?_
    show Steps p.tables e below (T5.setTop (mkF m 7 #[.val (.ref a), .val (.double d), .second] [(.int (1 : Int32))])) _
    refine XS.ifNo X9.here hx rfl (hb hby own_h14) rfl (by decide) ?_
    show Steps p.tables e below (T5.setTop (mkF m 10 #[.val (.ref a), .val (.double d), .second] [])) _
    refine XS.dloadN X9.here hx rfl (hb hby own_h15) rfl ?_
    show Steps p.tables e below (T5.setTop (mkF m 11 #[.val (.ref a), .val (.double d), .second] [(.double d)])) _
    refine XS.dconst1 X9.here hx rfl (hb hby own_h16) rfl ?_
    show Steps p.tables e below (T5.setTop (mkF m 12 #[.val (.ref a), .val (.double d), .second] [(.double FP.dconst1), (.double d)])) _
    refine XS.dcmpS X9.here hx rfl (hb hby own_h17) rfl c2 ?_
    show Steps p.tables e below (T5.setTop (mkF m 13 #[.val (.ref a), .val (.double d), .second] [(.int (-1 : Int32))])) _
    refine XS.ifYes X9.here hx rfl (pc0 := 13) (pc' := 30) rfl (hb hby own_h18) rfl (by decide) (by decide) (by decide) ?_
    show Steps p.tables e below (T5.setTop (mkF m 30 #[.val (.ref a), .val (.double d), .second] [])) _
    refine XS.aloadN X9.here hx rfl (hb hby own_h25) rfl rfl ?_
    show Steps p.tables e below (T5.setTop (mkF m 31 #[.val (.ref a), .val (.double d), .second] [(.ref a)])) _
    refine XS.dloadN X9.here hx rfl (hb hby own_h26) rfl ?_
    show Steps p.tables e below (T5.setTop (mkF m 32 #[.val (.ref a), .val (.double d), .second] [(.double d), (.ref a)])) _
    exact hh)
  obtain ⟨T19, h20, X21, e22, W23, st24⟩ := putF X9 hx hZ hown (host := "") (Or.inl (wT hw 17 rfl)) Via.refl e17 F1 E1 (Or.inr ⟨(wT hw 18 rfl), rfl, hnm⟩) (wT hw 4 rfl) (ty := .double) (by decide) rfl rfl (g := (mkF m 32 #[.val (.ref a), .val (.double d), .second] [(.double d), (.ref a)])) rfl rfl (hb hby own_h27)
  have N25 := Fr.snoc X21 N18 g1
  have F26 : Fld Z h20 a "com/example/geirfa/geirfa/retrieval/Smoothing$JelinekMercer" "documentWeight" "D" (.double d) := Fld.same W23 F1
  have F27 := Exa.wr W23 E1
  have Z28 : n0 ≤ h20.size := W23.size ▸ Z0
  have P29 : Keep h0 h20 [a] := K0.wr W23 (Or.inl (List.mem_of_getElem? (i := 0) rfl))
  have k4 : own_K p e below (T19.setTop (mkF m 35 #[.val (.ref a), .val (.double d), .second] [])) (s₁.setTop (entryFrame m #[(.ref a), (.double d)] 3)) := fun t hh => k3 t (st24 t hh)
  obtain ⟨fs, hr, hrun, hended, hW, hsame⟩ := X21.leave (v := none) (fun _ => rfl)
  refine ⟨_, _, k4 _ (X21.returnOut hx Bd.returns (hb hby own_h28) hr), hrun, hended, _, _, rfl, ?_, ⟨_, rfl⟩, hW, hsame.mono (by decide) (by decide)⟩
  show Q_rmC Z a d h0 n0 _ T19.heap _
  rw [e22]
  exact ⟨rfl, N25, P29, F27, F26⟩
def QM (r : Int32) (h0 : Heap) (n0 : Nat) (v : Option Value) (h : Heap) (L : List Loc) : Prop := v = some (.int r) ∧ Fr n0 L ∧ h = h0
theorem own_h30 : decode jdk_29_method_65_code 0 = .ok (.iload_n 0, 1) := by decide +kernel
theorem own_h31 : decode jdk_29_method_65_code 1 = .ok (.iload_n 1, 1) := by decide +kernel
theorem own_h32 : decode jdk_29_method_65_code 2 = .ok (.if_icmp .lt 7, 3) := by decide +kernel
theorem own_h33 : decode jdk_29_method_65_code 5 = .ok (.iload_n 0, 1) := by decide +kernel
theorem own_h34 : decode jdk_29_method_65_code 6 = .ok (.goto 4, 3) := by decide +kernel
theorem own_h35 : decode jdk_29_method_65_code 9 = .ok (.iload_n 1, 1) := by decide +kernel
theorem own_h36 : decode jdk_29_method_65_code 10 = .ok (.ireturn, 1) := by decide +kernel
theorem own_h37 : plainFor (⟨"java/lang/Math", "max", "(II)I"⟩ : MethodName) = true := by decide +kernel
set_option maxRecDepth 65536 in
set_option maxHeartbeats 40000000 in
theorem rmM (l : Launch) (Z : State) (a0 : Array Value) (hw : ∀ d ∈ tables_1, d.before a0 Z = true) (ws : List Jvm.Cond) (xv yv : Int32) (h0 : Heap) (n0 : Nat) (Z0 : n0 ≤ h0.size) :
    MetFree l (⟨"java/lang/Math", "max", "(II)I"⟩ : MethodName) (head1 (Jvm.Cond.code (⟨"java/lang/Math", "max", "(II)I"⟩ : MethodName) jdk_29_method_65_code 2 (some .int) :: ws) ({ frames := 0, cells := 0, slots := 0, locals := 0 } : Room)) (fun ar_ U => ar_ = #[(.int xv), (.int yv)] ∧ Z.Warmed39 U.vm ∧ U.heap = h0) (fun _ _ _ _ _ => True) (fun _ U o U' => ∃ v L, o = .returned v ∧ QM (own_max xv yv) h0 n0 v U'.heap L ∧ FrameEnd U o U' L ({ frames := 0, cells := 0, slots := 0, locals := 0 } : Room).cells ({ frames := 0, cells := 0, slots := 0, locals := 0 } : Room).slots) := by
  refine MetFree.of_bodySF own_h37 hisR ?_
  intro p e s m args below meth c s₁ Bd hml0 hP hK
  obtain ⟨rfl, hZ, hh⟩ := hP
  have hx := Bd.exec
  have hby := Bd.bytes
  have hml : c.maxLocals = 2 := hml0
  have hown : s.vm.findClass "java/lang/Math" = some m.cls := findClass_of_methodNamed Bd.named
  have hnm := (name_of_methodNamed Bd.named Bd.method).1
  have X0 : Stand p l e ({ frames := 0, cells := 0, slots := 0, locals := 0 } : Room) s m #[(.int xv), (.int yv)] below meth c s₁ [] 0 0 := Stand.of_body Bd
  have e0 : s₁.heap = h0 := by rw [← hh, Bd.state]; rfl
  have N0 := Fr.nil n0
  have k0 : own_K p e below (s₁.setTop (mkF m 0 #[.val (.int xv), .val (.int yv)] [])) (s₁.setTop (entryFrame m #[(.int xv), (.int yv)] 2)) := fun t k => castTop (by clear k; first | (simp [entryFrame, mkF, argsToLocals, Value.category, maxLocals]; done) | rfl) k
  have k1 : own_K p e below (s₁.setTop (mkF m 2 #[.val (.int xv), .val (.int yv)] [(.int yv), (.int xv)])) (s₁.setTop (entryFrame m #[(.int xv), (.int yv)] 2)) := fun t hh => k0 t (by
    refine XS.iloadN X0.here hx rfl (hb hby own_h30) rfl ?_
    show Steps p.tables e below (s₁.setTop (mkF m 1 #[.val (.int xv), .val (.int yv)] [(.int xv)])) _
    refine XS.iloadN X0.here hx rfl (hb hby own_h31) rfl ?_
    show Steps p.tables e below (s₁.setTop (mkF m 2 #[.val (.int xv), .val (.int yv)] [(.int yv), (.int xv)])) _
    exact hh)
  by_cases c2 : xv < yv
  ·
    have k2 : own_K p e below (s₁.setTop (mkF m 10 #[.val (.int xv), .val (.int yv)] [(.int yv)])) (s₁.setTop (entryFrame m #[(.int xv), (.int yv)] 2)) := fun t hh => k1 t (by
      refine XS.icmpYes X0.here hx rfl (pc0 := 2) (pc' := 9) rfl (hb hby own_h32) rfl (own_icT_lt c2) (by decide) (by decide) ?_
      show Steps p.tables e below (s₁.setTop (mkF m 9 #[.val (.int xv), .val (.int yv)] [])) _
      refine XS.iloadN X0.here hx rfl (hb hby own_h35) rfl ?_
      show Steps p.tables e below (s₁.setTop (mkF m 10 #[.val (.int xv), .val (.int yv)] [(.int yv)])) _
      exact hh)
    obtain ⟨fs, hr, hrun, hended, hW, hsame⟩ := X0.leave (v := some (.int yv)) (fun h => by rw [Bd.returns] at h; cases h)
    refine ⟨_, _, k2 _ (retOut X0 hx (t := .int) Bd.returns rfl (Or.inl ⟨rfl, (by simp), _, rfl⟩) (hb hby own_h36) hr), hrun, hended, _, _, rfl, ?_, ⟨_, rfl⟩, hW, hsame.mono (by decide) (by decide)⟩
    show QM (own_max xv yv) h0 n0 _ s₁.heap _
    rw [e0]
    exact ⟨by simp only [own_max, c2, if_true, if_false], N0, rfl⟩
  ·
    have k3 : own_K p e below (s₁.setTop (mkF m 10 #[.val (.int xv), .val (.int yv)] [(.int xv)])) (s₁.setTop (entryFrame m #[(.int xv), (.int yv)] 2)) := fun t hh => k1 t (by
      refine XS.icmpNo X0.here hx rfl (hb hby own_h32) rfl (own_icF_lt c2) ?_
      show Steps p.tables e below (s₁.setTop (mkF m 5 #[.val (.int xv), .val (.int yv)] [])) _
      refine XS.iloadN X0.here hx rfl (hb hby own_h33) rfl ?_
      show Steps p.tables e below (s₁.setTop (mkF m 6 #[.val (.int xv), .val (.int yv)] [(.int xv)])) _
      refine XS.goto X0.here hx rfl (pc0 := 6) (pc' := 10) rfl (hb hby own_h34) (by decide) (by decide) ?_
      show Steps p.tables e below (s₁.setTop (mkF m 10 #[.val (.int xv), .val (.int yv)] [(.int xv)])) _
      exact hh)
    obtain ⟨fs, hr, hrun, hended, hW, hsame⟩ := X0.leave (v := some (.int xv)) (fun h => by rw [Bd.returns] at h; cases h)
    refine ⟨_, _, k3 _ (retOut X0 hx (t := .int) Bd.returns rfl (Or.inl ⟨rfl, (by simp), _, rfl⟩) (hb hby own_h36) hr), hrun, hended, _, _, rfl, ?_, ⟨_, rfl⟩, hW, hsame.mono (by decide) (by decide)⟩
    show QM (own_max xv yv) h0 n0 _ s₁.heap _
    rw [e0]
    exact ⟨by simp only [own_max, c2, if_true, if_false], N0, rfl⟩
def QB (r : UInt64) (h0 : Heap) (n0 : Nat) (v : Option Value) (h : Heap) (L : List Loc) : Prop := v = some (.double r) ∧ Fr n0 L ∧ h = h0
theorem own_h38 : decode prog_29_method_3_code 0 = .ok (.aload_n 0, 1) := by decide +kernel
theorem own_h39 : decode prog_29_method_3_code 1 = .ok (.getfield 16, 3) := by decide +kernel
theorem own_h40 : decode prog_29_method_3_code 4 = .ok (.iload_n 1, 1) := by decide +kernel
theorem own_h41 : decode prog_29_method_3_code 5 = .ok (.i2d, 1) := by decide +kernel
theorem own_h42 : decode prog_29_method_3_code 6 = .ok (.dmul, 1) := by decide +kernel
theorem own_h43 : decode prog_29_method_3_code 7 = .ok (.iload_n 2, 1) := by decide +kernel
theorem own_h44 : decode prog_29_method_3_code 8 = .ok (.i2d, 1) := by decide +kernel
theorem own_h45 : decode prog_29_method_3_code 9 = .ok (.ddiv, 1) := by decide +kernel
theorem own_h46 : decode prog_29_method_3_code 10 = .ok (.dload_n 3, 1) := by decide +kernel
theorem own_h47 : decode prog_29_method_3_code 11 = .ok (.dadd, 1) := by decide +kernel
theorem own_h48 : decode prog_29_method_3_code 12 = .ok (.dreturn, 1) := by decide +kernel
set_option maxRecDepth 65536 in
set_option maxHeartbeats 40000000 in
theorem rmB (l : Launch) (Z : State) (a0 : Array Value) (hw : ∀ d ∈ tables_1, d.before a0 Z = true) (ws : List Jvm.Cond) (a : Addr) (fv lv : Int32) (bv d : UInt64) (h0 : Heap) (n0 : Nat) (Z0 : n0 ≤ h0.size) (F1 : Fld Z h0 a "com/example/geirfa/geirfa/retrieval/Smoothing$JelinekMercer" "documentWeight" "D" (.double d)) (n1 : Jvm.Free.Fl.NoNaN64 (FP.dmul d (FP.i2d fv))) (n2 : Jvm.Free.Fl.NoNaN64 (FP.ddiv (FP.dmul d (FP.i2d fv)) (FP.i2d lv))) (n3 : Jvm.Free.Fl.NoNaN64 (FP.dadd (FP.ddiv (FP.dmul d (FP.i2d fv)) (FP.i2d lv)) bv)) :
    MetFree l (⟨"com/example/geirfa/geirfa/retrieval/Smoothing$JelinekMercer", "probability", "(IID)D"⟩ : MethodName) (head1 (Jvm.Cond.code (⟨"com/example/geirfa/geirfa/retrieval/Smoothing$JelinekMercer", "probability", "(IID)D"⟩ : MethodName) prog_29_method_3_code 5 (some .double) :: ws) ({ frames := 0, cells := 0, slots := 0, locals := 0 } : Room)) (fun ar_ U => ar_ = #[(.ref a), (.int fv), (.int lv), (.double bv)] ∧ Z.Warmed39 U.vm ∧ U.heap = h0) (fun _ _ _ _ _ => True) (fun _ U o U' => ∃ v L, o = .returned v ∧ QB (FP.dadd (FP.ddiv (FP.dmul d (FP.i2d fv)) (FP.i2d lv)) bv) h0 n0 v U'.heap L ∧ FrameEnd U o U' L ({ frames := 0, cells := 0, slots := 0, locals := 0 } : Room).cells ({ frames := 0, cells := 0, slots := 0, locals := 0 } : Room).slots) := by
  refine MetFree.of_bodySF (plainFor_of_name own_h29) hisR ?_
  intro p e s m args below meth c s₁ Bd hml0 hP hK
  obtain ⟨rfl, hZ, hh⟩ := hP
  have hx := Bd.exec
  have hby := Bd.bytes
  have hml : c.maxLocals = 5 := hml0
  have hown : s.vm.findClass "com/example/geirfa/geirfa/retrieval/Smoothing$JelinekMercer" = some m.cls := findClass_of_methodNamed Bd.named
  have hnm := (name_of_methodNamed Bd.named Bd.method).1
  have X0 : Stand p l e ({ frames := 0, cells := 0, slots := 0, locals := 0 } : Room) s m #[(.ref a), (.int fv), (.int lv), (.double bv)] below meth c s₁ [] 0 0 := Stand.of_body Bd
  have e0 : s₁.heap = h0 := by rw [← hh, Bd.state]; rfl
  have N0 := Fr.nil n0
  have k0 : own_K p e below (s₁.setTop (mkF m 0 #[.val (.ref a), .val (.int fv), .val (.int lv), .val (.double bv), .second] [])) (s₁.setTop (entryFrame m #[(.ref a), (.int fv), (.int lv), (.double bv)] 5)) := fun t k => castTop (by clear k; first | (simp [entryFrame, mkF, argsToLocals, Value.category, maxLocals]; done) | rfl) k
  have k1 : own_K p e below (s₁.setTop (mkF m 1 #[.val (.ref a), .val (.int fv), .val (.int lv), .val (.double bv), .second] [(.ref a)])) (s₁.setTop (entryFrame m #[(.ref a), (.int fv), (.int lv), (.double bv)] 5)) := fun t hh => k0 t (by
    refine XS.aloadN X0.here hx rfl (hb hby own_h38) rfl rfl ?_
    show Steps p.tables e below (s₁.setTop (mkF m 1 #[.val (.ref a), .val (.int fv), .val (.int lv), .val (.double bv), .second] [(.ref a)])) _
    exact hh)
  obtain ⟨T30, X31, e32, st33⟩ := getF X0 hx hZ hown (host := "") (Or.inl (wT hw 17 rfl)) Via.refl e0 F1 (g := (mkF m 1 #[.val (.ref a), .val (.int fv), .val (.int lv), .val (.double bv), .second] [(.ref a)])) rfl rfl (hb hby own_h39)
  have k2 : own_K p e below (T30.setTop (mkF m 4 #[.val (.ref a), .val (.int fv), .val (.int lv), .val (.double bv), .second] [(.double d)])) (s₁.setTop (entryFrame m #[(.ref a), (.int fv), (.int lv), (.double bv)] 5)) := fun t hh => k1 t (st33 t hh)
  have k3 : own_K p e below (T30.setTop (mkF m 12 #[.val (.ref a), .val (.int fv), .val (.int lv), .val (.double bv), .second] [(.double (FP.dadd (FP.ddiv (FP.dmul d (FP.i2d fv)) (FP.i2d lv)) bv))])) (s₁.setTop (entryFrame m #[(.ref a), (.int fv), (.int lv), (.double bv)] 5)) := fun t hh => k2 t (by
    refine XS.iloadN X31.here hx rfl (hb hby own_h40) rfl ?_
    show Steps p.tables e below (T30.setTop (mkF m 5 #[.val (.ref a), .val (.int fv), .val (.int lv), .val (.double bv), .second] [(.int fv), (.double d)])) _
    refine XS.i2dS X31.here hx rfl (hb hby own_h41) rfl rfl ?_
    show Steps p.tables e below (T30.setTop (mkF m 6 #[.val (.ref a), .val (.int fv), .val (.int lv), .val (.double bv), .second] [(.double (FP.i2d fv)), (.double d)])) _
    refine XS.dmulS X31.here hx rfl (hb hby own_h42) rfl n1 rfl ?_
    show Steps p.tables e below (T30.setTop (mkF m 7 #[.val (.ref a), .val (.int fv), .val (.int lv), .val (.double bv), .second] [(.double (FP.dmul d (FP.i2d fv)))])) _
    refine XS.iloadN X31.here hx rfl (hb hby own_h43) rfl ?_
    show Steps p.tables e below (T30.setTop (mkF m 8 #[.val (.ref a), .val (.int fv), .val (.int lv), .val (.double bv), .second] [(.int lv), (.double (FP.dmul d (FP.i2d fv)))])) _
    refine XS.i2dS X31.here hx rfl (hb hby own_h44) rfl rfl ?_
    show Steps p.tables e below (T30.setTop (mkF m 9 #[.val (.ref a), .val (.int fv), .val (.int lv), .val (.double bv), .second] [(.double (FP.i2d lv)), (.double (FP.dmul d (FP.i2d fv)))])) _
    refine XS.ddivS X31.here hx rfl (hb hby own_h45) rfl n2 rfl ?_
    show Steps p.tables e below (T30.setTop (mkF m 10 #[.val (.ref a), .val (.int fv), .val (.int lv), .val (.double bv), .second] [(.double (FP.ddiv (FP.dmul d (FP.i2d fv)) (FP.i2d lv)))])) _
    refine XS.dloadN X31.here hx rfl (hb hby own_h46) rfl ?_
    show Steps p.tables e below (T30.setTop (mkF m 11 #[.val (.ref a), .val (.int fv), .val (.int lv), .val (.double bv), .second] [(.double bv), (.double (FP.ddiv (FP.dmul d (FP.i2d fv)) (FP.i2d lv)))])) _
    refine XS.daddS X31.here hx rfl (hb hby own_h47) rfl n3 rfl ?_
    show Steps p.tables e below (T30.setTop (mkF m 12 #[.val (.ref a), .val (.int fv), .val (.int lv), .val (.double bv), .second] [(.double (FP.dadd (FP.ddiv (FP.dmul d (FP.i2d fv)) (FP.i2d lv)) bv))])) _
    exact hh)
  obtain ⟨fs, hr, hrun, hended, hW, hsame⟩ := X31.leave (v := some (.double (FP.dadd (FP.ddiv (FP.dmul d (FP.i2d fv)) (FP.i2d lv)) bv))) (fun h => by rw [Bd.returns] at h; cases h)
  refine ⟨_, _, k3 _ (retOut X31 hx (t := .double) Bd.returns rfl (Or.inr (Or.inr (Or.inl ⟨rfl, rfl, _, rfl⟩))) (hb hby own_h48) hr), hrun, hended, _, _, rfl, ?_, ⟨_, rfl⟩, hW, hsame.mono (by decide) (by decide)⟩
  show QB (FP.dadd (FP.ddiv (FP.dmul d (FP.i2d fv)) (FP.i2d lv)) bv) h0 n0 _ T30.heap _
  rw [e32]
  exact ⟨rfl, N0, rfl⟩
def QL (h0 : Heap) (n0 : Nat) (v : Option Value) (h : Heap) (L : List Loc) : Prop := v = some (.int 1) ∧ Fr n0 L
theorem own_h49 : plainName "com/example/geirfa/geirfa/retrieval/JelinekMercerProbabilityPinLaw" = true := by first | (simp [plainName, overriddenIn]; done) | decide +kernel
set_option maxRecDepth 65536 in
set_option maxHeartbeats 40000000 in
theorem rmL (l : Launch) (Z : State) (a0 : Array Value) (hw : ∀ d ∈ tables_1, d.before a0 Z = true) (ws : List Jvm.Cond) (w_ mo e_ s_ r_ p_ : Int32) (h0 : Heap) (n0 : Nat) (Z0 : n0 ≤ h0.size) :
    MetFree l x (head1 (Jvm.Cond.code x code maxLocals ret :: ws) room_1) (fun ar_ U => ar_ = #[(.int w_), (.int mo), (.int e_), (.int s_), (.int r_), (.int p_)] ∧ Z.Warmed39 U.vm ∧ U.heap = h0) (fun _ _ _ _ _ => True) (fun _ U o U' => ∃ v L, o = .returned v ∧ QL h0 n0 v U'.heap L ∧ FrameEnd U o U' L 16 128) := by
  refine MetFree.of_bodySF (plainFor_of_name own_h49) hisR ?_
  intro p e s m args below meth c s₁ Bd hml0 hP hK
  obtain ⟨rfl, hZ, hh⟩ := hP
  have hx := Bd.exec
  have hby := Bd.bytes
  have hml : c.maxLocals = 21 := hml0
  have hown : s.vm.findClass "com/example/geirfa/geirfa/retrieval/JelinekMercerProbabilityPinLaw" = some m.cls := findClass_of_methodNamed Bd.named
  have hnm := (name_of_methodNamed Bd.named Bd.method).1
  have X0 : Stand p l e room_1 s m #[(.int w_), (.int mo), (.int e_), (.int s_), (.int r_), (.int p_)] below meth c s₁ [] 0 0 := Stand.of_body Bd
  have e0 : s₁.heap = h0 := by rw [← hh, Bd.state]; rfl
  have N0 := Fr.nil n0
  have k0 : own_K p e below (s₁.setTop (mkF m 0 #[.val (.int w_), .val (.int mo), .val (.int e_), .val (.int s_), .val (.int r_), .val (.int p_), .unset, .unset, .unset, .unset, .unset, .unset, .unset, .unset, .unset, .unset, .unset, .unset, .unset, .unset, .unset] [])) (s₁.setTop (entryFrame m #[(.int w_), (.int mo), (.int e_), (.int s_), (.int r_), (.int p_)] maxLocals)) := fun t k => castTop (by clear k; first | (simp [entryFrame, mkF, argsToLocals, Value.category, maxLocals]; done) | rfl) k
  have k1 : own_K p e below (s₁.setTop (mkF m 11 #[.val (.int w_), .val (.int mo), .val (.int e_), .val (.int s_), .val (.int r_), .val (.int p_), .val (.int ((1 : Int32) + ((w_ &&& (2147483647 : Int32)) % (7 : Int32)))), .unset, .unset, .unset, .unset, .unset, .unset, .unset, .unset, .unset, .unset, .unset, .unset, .unset, .unset] [])) (s₁.setTop (entryFrame m #[(.int w_), (.int mo), (.int e_), (.int s_), (.int r_), (.int p_)] maxLocals)) := fun t hh => k0 t (by
    refine XS.iconst X0.here hx rfl (hb hby at_0) ?_
    show Steps p.tables e below (s₁.setTop (mkF m 1 #[.val (.int w_), .val (.int mo), .val (.int e_), .val (.int s_), .val (.int r_), .val (.int p_), .unset, .unset, .unset, .unset, .unset, .unset, .unset, .unset, .unset, .unset, .unset, .unset, .unset, .unset, .unset] [(.int (1 : Int32))])) _
    refine XS.iloadN X0.here hx rfl (hb hby at_1) rfl ?_
    show Steps p.tables e below (s₁.setTop (mkF m 2 #[.val (.int w_), .val (.int mo), .val (.int e_), .val (.int s_), .val (.int r_), .val (.int p_), .unset, .unset, .unset, .unset, .unset, .unset, .unset, .unset, .unset, .unset, .unset, .unset, .unset, .unset, .unset] [(.int w_), (.int (1 : Int32))])) _
    refine X0.ldcInt hx hown (mvT hZ (wT hw 0 rfl)) (g := (mkF m 2 #[.val (.int w_), .val (.int mo), .val (.int e_), .val (.int s_), .val (.int r_), .val (.int p_), .unset, .unset, .unset, .unset, .unset, .unset, .unset, .unset, .unset, .unset, .unset, .unset, .unset, .unset, .unset] [(.int w_), (.int (1 : Int32))])) rfl (hb hby at_2) _ ?_
    show Steps p.tables e below (s₁.setTop (mkF m 4 #[.val (.int w_), .val (.int mo), .val (.int e_), .val (.int s_), .val (.int r_), .val (.int p_), .unset, .unset, .unset, .unset, .unset, .unset, .unset, .unset, .unset, .unset, .unset, .unset, .unset, .unset, .unset] [(.int (2147483647 : Int32)), (.int w_), (.int (1 : Int32))])) _
    refine XS.iand X0.here hx rfl (hb hby at_4) rfl ?_
    show Steps p.tables e below (s₁.setTop (mkF m 5 #[.val (.int w_), .val (.int mo), .val (.int e_), .val (.int s_), .val (.int r_), .val (.int p_), .unset, .unset, .unset, .unset, .unset, .unset, .unset, .unset, .unset, .unset, .unset, .unset, .unset, .unset, .unset] [(.int (w_ &&& (2147483647 : Int32))), (.int (1 : Int32))])) _
    refine XS.bipush X0.here hx rfl (hb hby at_5) ?_
    show Steps p.tables e below (s₁.setTop (mkF m 7 #[.val (.int w_), .val (.int mo), .val (.int e_), .val (.int s_), .val (.int r_), .val (.int p_), .unset, .unset, .unset, .unset, .unset, .unset, .unset, .unset, .unset, .unset, .unset, .unset, .unset, .unset, .unset] [(.int (7 : Int32)), (.int (w_ &&& (2147483647 : Int32))), (.int (1 : Int32))])) _
    refine iremM X0 hx (g := (mkF m 7 #[.val (.int w_), .val (.int mo), .val (.int e_), .val (.int s_), .val (.int r_), .val (.int p_), .unset, .unset, .unset, .unset, .unset, .unset, .unset, .unset, .unset, .unset, .unset, .unset, .unset, .unset, .unset] [(.int (7 : Int32)), (.int (w_ &&& (2147483647 : Int32))), (.int (1 : Int32))])) rfl (hb hby at_7) rfl (by decide) ?_
    show Steps p.tables e below (s₁.setTop (mkF m 8 #[.val (.int w_), .val (.int mo), .val (.int e_), .val (.int s_), .val (.int r_), .val (.int p_), .unset, .unset, .unset, .unset, .unset, .unset, .unset, .unset, .unset, .unset, .unset, .unset, .unset, .unset, .unset] [(.int ((w_ &&& (2147483647 : Int32)) % (7 : Int32))), (.int (1 : Int32))])) _
    refine XS.iadd X0.here hx rfl (hb hby at_8) rfl ?_
    show Steps p.tables e below (s₁.setTop (mkF m 9 #[.val (.int w_), .val (.int mo), .val (.int e_), .val (.int s_), .val (.int r_), .val (.int p_), .unset, .unset, .unset, .unset, .unset, .unset, .unset, .unset, .unset, .unset, .unset, .unset, .unset, .unset, .unset] [(.int ((1 : Int32) + ((w_ &&& (2147483647 : Int32)) % (7 : Int32))))])) _
    refine XS.istore X0.here hx rfl (hb hby at_9) rfl (l' := #[.val (.int w_), .val (.int mo), .val (.int e_), .val (.int s_), .val (.int r_), .val (.int p_), .val (.int ((1 : Int32) + ((w_ &&& (2147483647 : Int32)) % (7 : Int32)))), .unset, .unset, .unset, .unset, .unset, .unset, .unset, .unset, .unset, .unset, .unset, .unset, .unset, .unset]) rfl ?_
    show Steps p.tables e below (s₁.setTop (mkF m 11 #[.val (.int w_), .val (.int mo), .val (.int e_), .val (.int s_), .val (.int r_), .val (.int p_), .val (.int ((1 : Int32) + ((w_ &&& (2147483647 : Int32)) % (7 : Int32)))), .unset, .unset, .unset, .unset, .unset, .unset, .unset, .unset, .unset, .unset, .unset, .unset, .unset, .unset] [])) _
    exact hh)
  have k2 : own_K p e below (s₁.setTop (mkF m 11 #[.val (.int w_), .val (.int mo), .val (.int e_), .val (.int s_), .val (.int r_), .val (.int p_), .val (.int (own_A w_)), .unset, .unset, .unset, .unset, .unset, .unset, .unset, .unset, .unset, .unset, .unset, .unset, .unset, .unset] [])) (s₁.setTop (entryFrame m #[(.int w_), (.int mo), (.int e_), (.int s_), (.int r_), (.int p_)] maxLocals)) := k1
  have k3 : own_K p e below (s₁.setTop (mkF m 18 #[.val (.int w_), .val (.int mo), .val (.int e_), .val (.int s_), .val (.int r_), .val (.int p_), .val (.int (own_A w_)), .val (.int (r_ &&& (1048575 : Int32))), .unset, .unset, .unset, .unset, .unset, .unset, .unset, .unset, .unset, .unset, .unset, .unset, .unset] [])) (s₁.setTop (entryFrame m #[(.int w_), (.int mo), (.int e_), (.int s_), (.int r_), (.int p_)] maxLocals)) := fun t hh => k2 t (by
    refine XS.iload X0.here hx rfl (hb hby at_11) rfl ?_
    show Steps p.tables e below (s₁.setTop (mkF m 13 #[.val (.int w_), .val (.int mo), .val (.int e_), .val (.int s_), .val (.int r_), .val (.int p_), .val (.int (own_A w_)), .unset, .unset, .unset, .unset, .unset, .unset, .unset, .unset, .unset, .unset, .unset, .unset, .unset, .unset] [(.int r_)])) _
    refine X0.ldcInt hx hown (mvT hZ (wT hw 1 rfl)) (g := (mkF m 13 #[.val (.int w_), .val (.int mo), .val (.int e_), .val (.int s_), .val (.int r_), .val (.int p_), .val (.int (own_A w_)), .unset, .unset, .unset, .unset, .unset, .unset, .unset, .unset, .unset, .unset, .unset, .unset, .unset, .unset] [(.int r_)])) rfl (hb hby at_13) _ ?_
    show Steps p.tables e below (s₁.setTop (mkF m 15 #[.val (.int w_), .val (.int mo), .val (.int e_), .val (.int s_), .val (.int r_), .val (.int p_), .val (.int (own_A w_)), .unset, .unset, .unset, .unset, .unset, .unset, .unset, .unset, .unset, .unset, .unset, .unset, .unset, .unset] [(.int (1048575 : Int32)), (.int r_)])) _
    refine XS.iand X0.here hx rfl (hb hby at_15) rfl ?_
    show Steps p.tables e below (s₁.setTop (mkF m 16 #[.val (.int w_), .val (.int mo), .val (.int e_), .val (.int s_), .val (.int r_), .val (.int p_), .val (.int (own_A w_)), .unset, .unset, .unset, .unset, .unset, .unset, .unset, .unset, .unset, .unset, .unset, .unset, .unset, .unset] [(.int (r_ &&& (1048575 : Int32)))])) _
    refine XS.istore X0.here hx rfl (hb hby at_16) rfl (l' := #[.val (.int w_), .val (.int mo), .val (.int e_), .val (.int s_), .val (.int r_), .val (.int p_), .val (.int (own_A w_)), .val (.int (r_ &&& (1048575 : Int32))), .unset, .unset, .unset, .unset, .unset, .unset, .unset, .unset, .unset, .unset, .unset, .unset, .unset]) rfl ?_
    show Steps p.tables e below (s₁.setTop (mkF m 18 #[.val (.int w_), .val (.int mo), .val (.int e_), .val (.int s_), .val (.int r_), .val (.int p_), .val (.int (own_A w_)), .val (.int (r_ &&& (1048575 : Int32))), .unset, .unset, .unset, .unset, .unset, .unset, .unset, .unset, .unset, .unset, .unset, .unset, .unset] [])) _
    exact hh)
  have k4 : own_K p e below (s₁.setTop (mkF m 18 #[.val (.int w_), .val (.int mo), .val (.int e_), .val (.int s_), .val (.int r_), .val (.int p_), .val (.int (own_A w_)), .val (.int (own_C r_)), .unset, .unset, .unset, .unset, .unset, .unset, .unset, .unset, .unset, .unset, .unset, .unset, .unset] [])) (s₁.setTop (entryFrame m #[(.int w_), (.int mo), (.int e_), (.int s_), (.int r_), (.int p_)] maxLocals)) := k3
  have k5 : own_K p e below (s₁.setTop (mkF m 27 #[.val (.int w_), .val (.int mo), .val (.int e_), .val (.int s_), .val (.int r_), .val (.int p_), .val (.int (own_A w_)), .val (.int (own_C r_)), .val (.double (FP.ddiv (FP.i2d (own_C r_)) (4620693217682128896 : UInt64))), .second, .unset, .unset, .unset, .unset, .unset, .unset, .unset, .unset, .unset, .unset, .unset] [])) (s₁.setTop (entryFrame m #[(.int w_), (.int mo), (.int e_), (.int s_), (.int r_), (.int p_)] maxLocals)) := fun t hh => k4 t (by
    refine XS.iload X0.here hx rfl (hb hby at_18) rfl ?_
    show Steps p.tables e below (s₁.setTop (mkF m 20 #[.val (.int w_), .val (.int mo), .val (.int e_), .val (.int s_), .val (.int r_), .val (.int p_), .val (.int (own_A w_)), .val (.int (own_C r_)), .unset, .unset, .unset, .unset, .unset, .unset, .unset, .unset, .unset, .unset, .unset, .unset, .unset] [(.int (own_C r_))])) _
    refine XS.i2dS X0.here hx rfl (hb hby at_20) rfl rfl ?_
    show Steps p.tables e below (s₁.setTop (mkF m 21 #[.val (.int w_), .val (.int mo), .val (.int e_), .val (.int s_), .val (.int r_), .val (.int p_), .val (.int (own_A w_)), .val (.int (own_C r_)), .unset, .unset, .unset, .unset, .unset, .unset, .unset, .unset, .unset, .unset, .unset, .unset, .unset] [(.double (FP.i2d (own_C r_)))])) _
    refine X0.ldc2DoubleC hx hown (mvT hZ (wT hw 2 rfl)) (g := (mkF m 21 #[.val (.int w_), .val (.int mo), .val (.int e_), .val (.int s_), .val (.int r_), .val (.int p_), .val (.int (own_A w_)), .val (.int (own_C r_)), .unset, .unset, .unset, .unset, .unset, .unset, .unset, .unset, .unset, .unset, .unset, .unset, .unset] [(.double (FP.i2d (own_C r_)))])) rfl (hb hby at_21) _ ?_
    show Steps p.tables e below (s₁.setTop (mkF m 24 #[.val (.int w_), .val (.int mo), .val (.int e_), .val (.int s_), .val (.int r_), .val (.int p_), .val (.int (own_A w_)), .val (.int (own_C r_)), .unset, .unset, .unset, .unset, .unset, .unset, .unset, .unset, .unset, .unset, .unset, .unset, .unset] [(.double (4620693217682128896 : UInt64)), (.double (FP.i2d (own_C r_)))])) _
    refine XS.ddivS X0.here hx rfl (hb hby at_24) rfl (own_bg_dy r_).no rfl ?_
    show Steps p.tables e below (s₁.setTop (mkF m 25 #[.val (.int w_), .val (.int mo), .val (.int e_), .val (.int s_), .val (.int r_), .val (.int p_), .val (.int (own_A w_)), .val (.int (own_C r_)), .unset, .unset, .unset, .unset, .unset, .unset, .unset, .unset, .unset, .unset, .unset, .unset, .unset] [(.double (FP.ddiv (FP.i2d (own_C r_)) (4620693217682128896 : UInt64)))])) _
    refine XS.dstore X0.here hx rfl (hb hby at_25) rfl (l' := #[.val (.int w_), .val (.int mo), .val (.int e_), .val (.int s_), .val (.int r_), .val (.int p_), .val (.int (own_A w_)), .val (.int (own_C r_)), .val (.double (FP.ddiv (FP.i2d (own_C r_)) (4620693217682128896 : UInt64))), .second, .unset, .unset, .unset, .unset, .unset, .unset, .unset, .unset, .unset, .unset, .unset]) rfl ?_
    show Steps p.tables e below (s₁.setTop (mkF m 27 #[.val (.int w_), .val (.int mo), .val (.int e_), .val (.int s_), .val (.int r_), .val (.int p_), .val (.int (own_A w_)), .val (.int (own_C r_)), .val (.double (FP.ddiv (FP.i2d (own_C r_)) (4620693217682128896 : UInt64))), .second, .unset, .unset, .unset, .unset, .unset, .unset, .unset, .unset, .unset, .unset, .unset] [])) _
    exact hh)
  have k6 : own_K p e below (s₁.setTop (mkF m 27 #[.val (.int w_), .val (.int mo), .val (.int e_), .val (.int s_), .val (.int r_), .val (.int p_), .val (.int (own_A w_)), .val (.int (own_C r_)), .val (.double (own_bg r_)), .second, .unset, .unset, .unset, .unset, .unset, .unset, .unset, .unset, .unset, .unset, .unset] [])) (s₁.setTop (entryFrame m #[(.int w_), (.int mo), (.int e_), (.int s_), (.int r_), (.int p_)] maxLocals)) := k5
  have k7 : own_K p e below (s₁.setTop (mkF m 30 #[.val (.int w_), .val (.int mo), .val (.int e_), .val (.int s_), .val (.int r_), .val (.int p_), .val (.int (own_A w_)), .val (.int (own_C r_)), .val (.double (own_bg r_)), .second, .unset, .unset, .unset, .unset, .unset, .unset, .unset, .unset, .unset, .unset, .unset] [(.int (mo &&& (1 : Int32)))])) (s₁.setTop (entryFrame m #[(.int w_), (.int mo), (.int e_), (.int s_), (.int r_), (.int p_)] maxLocals)) := fun t hh => k6 t (by
    refine XS.iloadN X0.here hx rfl (hb hby at_27) rfl ?_
    show Steps p.tables e below (s₁.setTop (mkF m 28 #[.val (.int w_), .val (.int mo), .val (.int e_), .val (.int s_), .val (.int r_), .val (.int p_), .val (.int (own_A w_)), .val (.int (own_C r_)), .val (.double (own_bg r_)), .second, .unset, .unset, .unset, .unset, .unset, .unset, .unset, .unset, .unset, .unset, .unset] [(.int mo)])) _
    refine XS.iconst X0.here hx rfl (hb hby at_28) ?_
    show Steps p.tables e below (s₁.setTop (mkF m 29 #[.val (.int w_), .val (.int mo), .val (.int e_), .val (.int s_), .val (.int r_), .val (.int p_), .val (.int (own_A w_)), .val (.int (own_C r_)), .val (.double (own_bg r_)), .second, .unset, .unset, .unset, .unset, .unset, .unset, .unset, .unset, .unset, .unset, .unset] [(.int (1 : Int32)), (.int mo)])) _
    refine XS.iand X0.here hx rfl (hb hby at_29) rfl ?_
    show Steps p.tables e below (s₁.setTop (mkF m 30 #[.val (.int w_), .val (.int mo), .val (.int e_), .val (.int s_), .val (.int r_), .val (.int p_), .val (.int (own_A w_)), .val (.int (own_C r_)), .val (.double (own_bg r_)), .second, .unset, .unset, .unset, .unset, .unset, .unset, .unset, .unset, .unset, .unset, .unset] [(.int (mo &&& (1 : Int32)))])) _
    exact hh)
  by_cases c30 : (mo &&& (1 : Int32)) = 0
  ·
    have k8 : own_K p e below (s₁.setTop (mkF m 63 #[.val (.int w_), .val (.int mo), .val (.int e_), .val (.int s_), .val (.int r_), .val (.int p_), .val (.int (own_A w_)), .val (.int (own_C r_)), .val (.double (own_bg r_)), .second, .unset, .unset, .unset, .unset, .unset, .unset, .unset, .unset, .unset, .unset, .unset] [(.int (p_ &&& (2147483647 : Int32))), (.int (1 : Int32))])) (s₁.setTop (entryFrame m #[(.int w_), (.int mo), (.int e_), (.int s_), (.int r_), (.int p_)] maxLocals)) := fun t hh => k7 t (by
      refine XS.ifYes X0.here hx rfl (pc0 := 30) (pc' := 57) rfl (hb hby at_30) rfl (own_ifT_eq c30) (by decide) (by decide) ?_
      show Steps p.tables e below (s₁.setTop (mkF m 57 #[.val (.int w_), .val (.int mo), .val (.int e_), .val (.int s_), .val (.int r_), .val (.int p_), .val (.int (own_A w_)), .val (.int (own_C r_)), .val (.double (own_bg r_)), .second, .unset, .unset, .unset, .unset, .unset, .unset, .unset, .unset, .unset, .unset, .unset] [])) _
      refine XS.iconst X0.here hx rfl (hb hby at_57) ?_
      show Steps p.tables e below (s₁.setTop (mkF m 58 #[.val (.int w_), .val (.int mo), .val (.int e_), .val (.int s_), .val (.int r_), .val (.int p_), .val (.int (own_A w_)), .val (.int (own_C r_)), .val (.double (own_bg r_)), .second, .unset, .unset, .unset, .unset, .unset, .unset, .unset, .unset, .unset, .unset, .unset] [(.int (1 : Int32))])) _
      refine XS.iload X0.here hx rfl (hb hby at_58) rfl ?_
      show Steps p.tables e below (s₁.setTop (mkF m 60 #[.val (.int w_), .val (.int mo), .val (.int e_), .val (.int s_), .val (.int r_), .val (.int p_), .val (.int (own_A w_)), .val (.int (own_C r_)), .val (.double (own_bg r_)), .second, .unset, .unset, .unset, .unset, .unset, .unset, .unset, .unset, .unset, .unset, .unset] [(.int p_), (.int (1 : Int32))])) _
      refine X0.ldcInt hx hown (mvT hZ (wT hw 0 rfl)) (g := (mkF m 60 #[.val (.int w_), .val (.int mo), .val (.int e_), .val (.int s_), .val (.int r_), .val (.int p_), .val (.int (own_A w_)), .val (.int (own_C r_)), .val (.double (own_bg r_)), .second, .unset, .unset, .unset, .unset, .unset, .unset, .unset, .unset, .unset, .unset, .unset] [(.int p_), (.int (1 : Int32))])) rfl (hb hby at_60) _ ?_
      show Steps p.tables e below (s₁.setTop (mkF m 62 #[.val (.int w_), .val (.int mo), .val (.int e_), .val (.int s_), .val (.int r_), .val (.int p_), .val (.int (own_A w_)), .val (.int (own_C r_)), .val (.double (own_bg r_)), .second, .unset, .unset, .unset, .unset, .unset, .unset, .unset, .unset, .unset, .unset, .unset] [(.int (2147483647 : Int32)), (.int p_), (.int (1 : Int32))])) _
      refine XS.iand X0.here hx rfl (hb hby at_62) rfl ?_
      show Steps p.tables e below (s₁.setTop (mkF m 63 #[.val (.int w_), .val (.int mo), .val (.int e_), .val (.int s_), .val (.int r_), .val (.int p_), .val (.int (own_A w_)), .val (.int (own_C r_)), .val (.double (own_bg r_)), .second, .unset, .unset, .unset, .unset, .unset, .unset, .unset, .unset, .unset, .unset, .unset] [(.int (p_ &&& (2147483647 : Int32))), (.int (1 : Int32))])) _
      exact hh)
    obtain ⟨_, _, ⟨T34, L35, k_36, n_37⟩, -, X38, ⟨Lc39, hQ40, l_41, y_42, z_43⟩, st44⟩ := Jvm.LawKit.callS X0 hx (y := (⟨"java/lang/Math", "max", "(II)I"⟩ : MethodName)) hown (mvT hZ (wT hw 25 rfl)) (mvT hZ (wT hw 26 rfl)) (mvT hZ (wT hw 27 rfl)) (mvT hZ (wT hw 28 rfl)) (by decide) (backOf (W := 0) (rmM l Z a0 hw [] (1 : Int32) (p_ &&& (2147483647 : Int32)) h0 n0 Z0) hZ (wT hw 28 rfl) (wT hw 27 rfl) (by decide) (by decide)) (g := (mkF m 63 #[.val (.int w_), .val (.int mo), .val (.int e_), .val (.int s_), .val (.int r_), .val (.int p_), .val (.int (own_A w_)), .val (.int (own_C r_)), .val (.double (own_bg r_)), .second, .unset, .unset, .unset, .unset, .unset, .unset, .unset, .unset, .unset, .unset, .unset] [(.int (p_ &&& (2147483647 : Int32))), (.int (1 : Int32))])) rfl (by rw [hml]; rfl) (argsL := [(.int (1 : Int32)), (.int (p_ &&& (2147483647 : Int32)))]) (rest := []) (lenOf own_h8 rfl) rfl (by show 2 * 0 + _ ≤ _; exact Nat.le_of_eq rfl) (hb hby at_63) (fun _ _ => ⟨rfl, e0, (by decide : 0 + 0 ≤ _), (by decide : 0 + 0 ≤ _)⟩)
    dsimp only [Pt.U, Pt.locs, Pt.cells, Pt.slots] at X38 l_41 y_42 z_43 st44 hQ40
    subst l_41 y_42 z_43
    obtain ⟨rfl, N45, e46⟩ := hQ40
    have N47 := Fr.app N0 N45
    have k9 : own_K p e below (T34.setTop (mkF m 66 #[.val (.int w_), .val (.int mo), .val (.int e_), .val (.int s_), .val (.int r_), .val (.int p_), .val (.int (own_A w_)), .val (.int (own_C r_)), .val (.double (own_bg r_)), .second, .unset, .unset, .unset, .unset, .unset, .unset, .unset, .unset, .unset, .unset, .unset] [(.int (own_max (1 : Int32) (p_ &&& (2147483647 : Int32))))])) (s₁.setTop (entryFrame m #[(.int w_), (.int mo), (.int e_), (.int s_), (.int r_), (.int p_)] maxLocals)) := fun t hh => k8 t (st44 t hh)
    have k10 : own_K p e below (T34.setTop (mkF m 71 #[.val (.int w_), .val (.int mo), .val (.int e_), .val (.int s_), .val (.int r_), .val (.int p_), .val (.int (own_A w_)), .val (.int (own_C r_)), .val (.double (own_bg r_)), .second, .val (.int (own_max (1 : Int32) (p_ &&& (2147483647 : Int32)))), .unset, .unset, .unset, .unset, .unset, .unset, .unset, .unset, .unset, .unset] [(.int (s_ &&& (1 : Int32)))])) (s₁.setTop (entryFrame m #[(.int w_), (.int mo), (.int e_), (.int s_), (.int r_), (.int p_)] maxLocals)) := fun t hh => k9 t (by
      refine XS.istore X38.here hx rfl (hb hby at_66) rfl (l' := #[.val (.int w_), .val (.int mo), .val (.int e_), .val (.int s_), .val (.int r_), .val (.int p_), .val (.int (own_A w_)), .val (.int (own_C r_)), .val (.double (own_bg r_)), .second, .val (.int (own_max (1 : Int32) (p_ &&& (2147483647 : Int32)))), .unset, .unset, .unset, .unset, .unset, .unset, .unset, .unset, .unset, .unset]) rfl ?_
      show Steps p.tables e below (T34.setTop (mkF m 68 #[.val (.int w_), .val (.int mo), .val (.int e_), .val (.int s_), .val (.int r_), .val (.int p_), .val (.int (own_A w_)), .val (.int (own_C r_)), .val (.double (own_bg r_)), .second, .val (.int (own_max (1 : Int32) (p_ &&& (2147483647 : Int32)))), .unset, .unset, .unset, .unset, .unset, .unset, .unset, .unset, .unset, .unset] [])) _
      refine XS.iloadN X38.here hx rfl (hb hby at_68) rfl ?_
      show Steps p.tables e below (T34.setTop (mkF m 69 #[.val (.int w_), .val (.int mo), .val (.int e_), .val (.int s_), .val (.int r_), .val (.int p_), .val (.int (own_A w_)), .val (.int (own_C r_)), .val (.double (own_bg r_)), .second, .val (.int (own_max (1 : Int32) (p_ &&& (2147483647 : Int32)))), .unset, .unset, .unset, .unset, .unset, .unset, .unset, .unset, .unset, .unset] [(.int s_)])) _
      refine XS.iconst X38.here hx rfl (hb hby at_69) ?_
      show Steps p.tables e below (T34.setTop (mkF m 70 #[.val (.int w_), .val (.int mo), .val (.int e_), .val (.int s_), .val (.int r_), .val (.int p_), .val (.int (own_A w_)), .val (.int (own_C r_)), .val (.double (own_bg r_)), .second, .val (.int (own_max (1 : Int32) (p_ &&& (2147483647 : Int32)))), .unset, .unset, .unset, .unset, .unset, .unset, .unset, .unset, .unset, .unset] [(.int (1 : Int32)), (.int s_)])) _
      refine XS.iand X38.here hx rfl (hb hby at_70) rfl ?_
      show Steps p.tables e below (T34.setTop (mkF m 71 #[.val (.int w_), .val (.int mo), .val (.int e_), .val (.int s_), .val (.int r_), .val (.int p_), .val (.int (own_A w_)), .val (.int (own_C r_)), .val (.double (own_bg r_)), .second, .val (.int (own_max (1 : Int32) (p_ &&& (2147483647 : Int32)))), .unset, .unset, .unset, .unset, .unset, .unset, .unset, .unset, .unset, .unset] [(.int (s_ &&& (1 : Int32)))])) _
      exact hh)
    by_cases c71 : (s_ &&& (1 : Int32)) = 0
    ·
      have k11 : own_K p e below (T34.setTop (mkF m 82 #[.val (.int w_), .val (.int mo), .val (.int e_), .val (.int s_), .val (.int r_), .val (.int p_), .val (.int (own_A w_)), .val (.int (own_C r_)), .val (.double (own_bg r_)), .second, .val (.int (own_max (1 : Int32) (p_ &&& (2147483647 : Int32)))), .val (.int (0 : Int32)), .unset, .unset, .unset, .unset, .unset, .unset, .unset, .unset, .unset] [])) (s₁.setTop (entryFrame m #[(.int w_), (.int mo), (.int e_), (.int s_), (.int r_), (.int p_)] maxLocals)) := fun t hh => k10 t (by
        refine XS.ifYes X38.here hx rfl (pc0 := 71) (pc' := 79) rfl (hb hby at_71) rfl (own_ifT_eq c71) (by decide) (by decide) ?_
        show Steps p.tables e below (T34.setTop (mkF m 79 #[.val (.int w_), .val (.int mo), .val (.int e_), .val (.int s_), .val (.int r_), .val (.int p_), .val (.int (own_A w_)), .val (.int (own_C r_)), .val (.double (own_bg r_)), .second, .val (.int (own_max (1 : Int32) (p_ &&& (2147483647 : Int32)))), .unset, .unset, .unset, .unset, .unset, .unset, .unset, .unset, .unset, .unset] [])) _
        refine XS.iconst X38.here hx rfl (hb hby at_79) ?_
        show Steps p.tables e below (T34.setTop (mkF m 80 #[.val (.int w_), .val (.int mo), .val (.int e_), .val (.int s_), .val (.int r_), .val (.int p_), .val (.int (own_A w_)), .val (.int (own_C r_)), .val (.double (own_bg r_)), .second, .val (.int (own_max (1 : Int32) (p_ &&& (2147483647 : Int32)))), .unset, .unset, .unset, .unset, .unset, .unset, .unset, .unset, .unset, .unset] [(.int (0 : Int32))])) _
        refine XS.istore X38.here hx rfl (hb hby at_80) rfl (l' := #[.val (.int w_), .val (.int mo), .val (.int e_), .val (.int s_), .val (.int r_), .val (.int p_), .val (.int (own_A w_)), .val (.int (own_C r_)), .val (.double (own_bg r_)), .second, .val (.int (own_max (1 : Int32) (p_ &&& (2147483647 : Int32)))), .val (.int (0 : Int32)), .unset, .unset, .unset, .unset, .unset, .unset, .unset, .unset, .unset]) rfl ?_
        show Steps p.tables e below (T34.setTop (mkF m 82 #[.val (.int w_), .val (.int mo), .val (.int e_), .val (.int s_), .val (.int r_), .val (.int p_), .val (.int (own_A w_)), .val (.int (own_C r_)), .val (.double (own_bg r_)), .second, .val (.int (own_max (1 : Int32) (p_ &&& (2147483647 : Int32)))), .val (.int (0 : Int32)), .unset, .unset, .unset, .unset, .unset, .unset, .unset, .unset, .unset] [])) _
        exact hh)
      obtain ⟨T48, h49, X50, e51, E52, A53, D54, U56, st55⟩ := newO X38 hx hZ hown (wT hw 3 rfl) (wT hw 4 rfl) (wT hw 5 rfl) e46 (g := (mkF m 82 #[.val (.int w_), .val (.int mo), .val (.int e_), .val (.int s_), .val (.int r_), .val (.int p_), .val (.int (own_A w_)), .val (.int (own_C r_)), .val (.double (own_bg r_)), .second, .val (.int (own_max (1 : Int32) (p_ &&& (2147483647 : Int32)))), .val (.int (0 : Int32)), .unset, .unset, .unset, .unset, .unset, .unset, .unset, .unset, .unset] [])) rfl (hb hby at_82) (by decide) (by decide)
      obtain ⟨a57, g58⟩ : ∃ z, z = h0.size := ⟨_, rfl⟩
      rw [← g58] at A53 D54 U56 st55
      have G59 : n0 ≤ a57 := Nat.le_trans Z0 (Nat.le_of_eq g58.symm)
      have Z60 : n0 ≤ h49.size := Nat.le_trans Z0 E52.1
      have F61 : Fld Z h49 a57 "com/example/geirfa/geirfa/retrieval/Smoothing$JelinekMercer" "documentWeight" "D" (.double (0 : UInt64)) := D54 (Or.inr (wT hw 18 rfl)) (ty := .double) (by decide)
      have k12 : own_K p e below (T48.setTop (mkF m 85 #[.val (.int w_), .val (.int mo), .val (.int e_), .val (.int s_), .val (.int r_), .val (.int p_), .val (.int (own_A w_)), .val (.int (own_C r_)), .val (.double (own_bg r_)), .second, .val (.int (own_max (1 : Int32) (p_ &&& (2147483647 : Int32)))), .val (.int (0 : Int32)), .unset, .unset, .unset, .unset, .unset, .unset, .unset, .unset, .unset] [(.ref a57)])) (s₁.setTop (entryFrame m #[(.int w_), (.int mo), (.int e_), (.int s_), (.int r_), (.int p_)] maxLocals)) := fun t hh => k11 t (st55 t hh)
      have k13 : own_K p e below (T48.setTop (mkF m 93 #[.val (.int w_), .val (.int mo), .val (.int e_), .val (.int s_), .val (.int r_), .val (.int p_), .val (.int (own_A w_)), .val (.int (own_C r_)), .val (.double (own_bg r_)), .second, .val (.int (own_max (1 : Int32) (p_ &&& (2147483647 : Int32)))), .val (.int (0 : Int32)), .unset, .unset, .unset, .unset, .unset, .unset, .unset, .unset, .unset] [(.double (FP.ddiv (FP.i2d (own_A w_)) (4620693217682128896 : UInt64))), (.ref a57), (.ref a57)])) (s₁.setTop (entryFrame m #[(.int w_), (.int mo), (.int e_), (.int s_), (.int r_), (.int p_)] maxLocals)) := fun t hh => k12 t (by
        refine XS.dup X50.here hx rfl (hb hby at_85) rfl rfl ?_
        show Steps p.tables e below (T48.setTop (mkF m 86 #[.val (.int w_), .val (.int mo), .val (.int e_), .val (.int s_), .val (.int r_), .val (.int p_), .val (.int (own_A w_)), .val (.int (own_C r_)), .val (.double (own_bg r_)), .second, .val (.int (own_max (1 : Int32) (p_ &&& (2147483647 : Int32)))), .val (.int (0 : Int32)), .unset, .unset, .unset, .unset, .unset, .unset, .unset, .unset, .unset] [(.ref a57), (.ref a57)])) _
        refine XS.iload X50.here hx rfl (hb hby at_86) rfl ?_
        show Steps p.tables e below (T48.setTop (mkF m 88 #[.val (.int w_), .val (.int mo), .val (.int e_), .val (.int s_), .val (.int r_), .val (.int p_), .val (.int (own_A w_)), .val (.int (own_C r_)), .val (.double (own_bg r_)), .second, .val (.int (own_max (1 : Int32) (p_ &&& (2147483647 : Int32)))), .val (.int (0 : Int32)), .unset, .unset, .unset, .unset, .unset, .unset, .unset, .unset, .unset] [(.int (own_A w_)), (.ref a57), (.ref a57)])) _
        refine XS.i2dS X50.here hx rfl (hb hby at_88) rfl rfl ?_
        show Steps p.tables e below (T48.setTop (mkF m 89 #[.val (.int w_), .val (.int mo), .val (.int e_), .val (.int s_), .val (.int r_), .val (.int p_), .val (.int (own_A w_)), .val (.int (own_C r_)), .val (.double (own_bg r_)), .second, .val (.int (own_max (1 : Int32) (p_ &&& (2147483647 : Int32)))), .val (.int (0 : Int32)), .unset, .unset, .unset, .unset, .unset, .unset, .unset, .unset, .unset] [(.double (FP.i2d (own_A w_))), (.ref a57), (.ref a57)])) _
        refine X50.ldc2DoubleC hx hown (mvT hZ (wT hw 2 rfl)) (g := (mkF m 89 #[.val (.int w_), .val (.int mo), .val (.int e_), .val (.int s_), .val (.int r_), .val (.int p_), .val (.int (own_A w_)), .val (.int (own_C r_)), .val (.double (own_bg r_)), .second, .val (.int (own_max (1 : Int32) (p_ &&& (2147483647 : Int32)))), .val (.int (0 : Int32)), .unset, .unset, .unset, .unset, .unset, .unset, .unset, .unset, .unset] [(.double (FP.i2d (own_A w_))), (.ref a57), (.ref a57)])) rfl (hb hby at_89) _ ?_
        show Steps p.tables e below (T48.setTop (mkF m 92 #[.val (.int w_), .val (.int mo), .val (.int e_), .val (.int s_), .val (.int r_), .val (.int p_), .val (.int (own_A w_)), .val (.int (own_C r_)), .val (.double (own_bg r_)), .second, .val (.int (own_max (1 : Int32) (p_ &&& (2147483647 : Int32)))), .val (.int (0 : Int32)), .unset, .unset, .unset, .unset, .unset, .unset, .unset, .unset, .unset] [(.double (4620693217682128896 : UInt64)), (.double (FP.i2d (own_A w_))), (.ref a57), (.ref a57)])) _
        refine XS.ddivS X50.here hx rfl (hb hby at_92) rfl (own_W_dy w_).no rfl ?_
        show Steps p.tables e below (T48.setTop (mkF m 93 #[.val (.int w_), .val (.int mo), .val (.int e_), .val (.int s_), .val (.int r_), .val (.int p_), .val (.int (own_A w_)), .val (.int (own_C r_)), .val (.double (own_bg r_)), .second, .val (.int (own_max (1 : Int32) (p_ &&& (2147483647 : Int32)))), .val (.int (0 : Int32)), .unset, .unset, .unset, .unset, .unset, .unset, .unset, .unset, .unset] [(.double (FP.ddiv (FP.i2d (own_A w_)) (4620693217682128896 : UInt64))), (.ref a57), (.ref a57)])) _
        exact hh)
      have k14 : own_K p e below (T48.setTop (mkF m 93 #[.val (.int w_), .val (.int mo), .val (.int e_), .val (.int s_), .val (.int r_), .val (.int p_), .val (.int (own_A w_)), .val (.int (own_C r_)), .val (.double (own_bg r_)), .second, .val (.int (own_max (1 : Int32) (p_ &&& (2147483647 : Int32)))), .val (.int (0 : Int32)), .unset, .unset, .unset, .unset, .unset, .unset, .unset, .unset, .unset] [(.double (own_W w_)), (.ref a57), (.ref a57)])) (s₁.setTop (entryFrame m #[(.int w_), (.int mo), (.int e_), (.int s_), (.int r_), (.int p_)] maxLocals)) := k13
      obtain ⟨_, _, ⟨T62, L63, k_64, n_65⟩, -, X66, ⟨Lc67, hQ68, l_69, y_70, z_71⟩, st72⟩ := X50.specialBack hx (y := (⟨"com/example/geirfa/geirfa/retrieval/Smoothing$JelinekMercer", "<init>", "(D)V"⟩ : MethodName)) rfl hown (mvT hZ (wT hw 6 rfl)) (mvT hZ (wT hw 7 rfl)) (mvT hZ (wT hw 8 rfl)) (by decide) (backOf (W := 1) (rmC l Z a0 hw [] a57 (own_W w_) h49 n0 Z60 F61 A53 G59 (own_W_gt w_) (own_W_lt w_)) hZ (wT hw 8 rfl) (wT hw 5 rfl) (by decide) (by decide)) (g := (mkF m 93 #[.val (.int w_), .val (.int mo), .val (.int e_), .val (.int s_), .val (.int r_), .val (.int p_), .val (.int (own_A w_)), .val (.int (own_C r_)), .val (.double (own_bg r_)), .second, .val (.int (own_max (1 : Int32) (p_ &&& (2147483647 : Int32)))), .val (.int (0 : Int32)), .unset, .unset, .unset, .unset, .unset, .unset, .unset, .unset, .unset] [(.double (own_W w_)), (.ref a57), (.ref a57)])) rfl (by rw [hml]; rfl) (Steps.refl _) (a := a57) (argsL := [(.double (own_W w_))]) (rest := [(.ref a57)]) (lenOf own_h5 rfl) rfl (by show 2 * 0 + _ ≤ _; exact Nat.le_of_eq rfl) (hb hby at_93) (fun _ _ => ⟨rfl, e51, (by decide : 1 + 0 ≤ _), (by decide : 1 + 0 ≤ _)⟩)
      dsimp only [Pt.U, Pt.locs, Pt.cells, Pt.slots] at X66 l_69 y_70 z_71 st72 hQ68
      subst l_69 y_70 z_71
      obtain ⟨rfl, N73, K74, E75, F76⟩ := hQ68
      have N77 := Fr.app N47 N73
      have Z78 : n0 ≤ T62.heap.size := Nat.le_trans Z60 K74.1
      have k15 : own_K p e below (T62.setTop (mkF m 96 #[.val (.int w_), .val (.int mo), .val (.int e_), .val (.int s_), .val (.int r_), .val (.int p_), .val (.int (own_A w_)), .val (.int (own_C r_)), .val (.double (own_bg r_)), .second, .val (.int (own_max (1 : Int32) (p_ &&& (2147483647 : Int32)))), .val (.int (0 : Int32)), .unset, .unset, .unset, .unset, .unset, .unset, .unset, .unset, .unset] [(.ref a57)])) (s₁.setTop (entryFrame m #[(.int w_), (.int mo), (.int e_), (.int s_), (.int r_), (.int p_)] maxLocals)) := fun t hh => k14 t (st72.trans hh)
      have k16 : own_K p e below (T62.setTop (mkF m 106 #[.val (.int w_), .val (.int mo), .val (.int e_), .val (.int s_), .val (.int r_), .val (.int p_), .val (.int (own_A w_)), .val (.int (own_C r_)), .val (.double (own_bg r_)), .second, .val (.int (own_max (1 : Int32) (p_ &&& (2147483647 : Int32)))), .val (.int (0 : Int32)), .val (.ref a57), .unset, .unset, .unset, .unset, .unset, .unset, .unset, .unset] [(.double (own_bg r_)), (.int (own_max (1 : Int32) (p_ &&& (2147483647 : Int32)))), (.int (0 : Int32)), (.ref a57)])) (s₁.setTop (entryFrame m #[(.int w_), (.int mo), (.int e_), (.int s_), (.int r_), (.int p_)] maxLocals)) := fun t hh => k15 t (by
        refine XS.astore X66.here hx rfl (hb hby at_96) rfl rfl (l' := #[.val (.int w_), .val (.int mo), .val (.int e_), .val (.int s_), .val (.int r_), .val (.int p_), .val (.int (own_A w_)), .val (.int (own_C r_)), .val (.double (own_bg r_)), .second, .val (.int (own_max (1 : Int32) (p_ &&& (2147483647 : Int32)))), .val (.int (0 : Int32)), .val (.ref a57), .unset, .unset, .unset, .unset, .unset, .unset, .unset, .unset]) rfl ?_
        show Steps p.tables e below (T62.setTop (mkF m 98 #[.val (.int w_), .val (.int mo), .val (.int e_), .val (.int s_), .val (.int r_), .val (.int p_), .val (.int (own_A w_)), .val (.int (own_C r_)), .val (.double (own_bg r_)), .second, .val (.int (own_max (1 : Int32) (p_ &&& (2147483647 : Int32)))), .val (.int (0 : Int32)), .val (.ref a57), .unset, .unset, .unset, .unset, .unset, .unset, .unset, .unset] [])) _
        refine XS.aload X66.here hx rfl (hb hby at_98) rfl rfl ?_
        show Steps p.tables e below (T62.setTop (mkF m 100 #[.val (.int w_), .val (.int mo), .val (.int e_), .val (.int s_), .val (.int r_), .val (.int p_), .val (.int (own_A w_)), .val (.int (own_C r_)), .val (.double (own_bg r_)), .second, .val (.int (own_max (1 : Int32) (p_ &&& (2147483647 : Int32)))), .val (.int (0 : Int32)), .val (.ref a57), .unset, .unset, .unset, .unset, .unset, .unset, .unset, .unset] [(.ref a57)])) _
        refine XS.iload X66.here hx rfl (hb hby at_100) rfl ?_
        show Steps p.tables e below (T62.setTop (mkF m 102 #[.val (.int w_), .val (.int mo), .val (.int e_), .val (.int s_), .val (.int r_), .val (.int p_), .val (.int (own_A w_)), .val (.int (own_C r_)), .val (.double (own_bg r_)), .second, .val (.int (own_max (1 : Int32) (p_ &&& (2147483647 : Int32)))), .val (.int (0 : Int32)), .val (.ref a57), .unset, .unset, .unset, .unset, .unset, .unset, .unset, .unset] [(.int (0 : Int32)), (.ref a57)])) _
        refine XS.iload X66.here hx rfl (hb hby at_102) rfl ?_
        show Steps p.tables e below (T62.setTop (mkF m 104 #[.val (.int w_), .val (.int mo), .val (.int e_), .val (.int s_), .val (.int r_), .val (.int p_), .val (.int (own_A w_)), .val (.int (own_C r_)), .val (.double (own_bg r_)), .second, .val (.int (own_max (1 : Int32) (p_ &&& (2147483647 : Int32)))), .val (.int (0 : Int32)), .val (.ref a57), .unset, .unset, .unset, .unset, .unset, .unset, .unset, .unset] [(.int (own_max (1 : Int32) (p_ &&& (2147483647 : Int32)))), (.int (0 : Int32)), (.ref a57)])) _
        refine XS.dload X66.here hx rfl (hb hby at_104) rfl ?_
        show Steps p.tables e below (T62.setTop (mkF m 106 #[.val (.int w_), .val (.int mo), .val (.int e_), .val (.int s_), .val (.int r_), .val (.int p_), .val (.int (own_A w_)), .val (.int (own_C r_)), .val (.double (own_bg r_)), .second, .val (.int (own_max (1 : Int32) (p_ &&& (2147483647 : Int32)))), .val (.int (0 : Int32)), .val (.ref a57), .unset, .unset, .unset, .unset, .unset, .unset, .unset, .unset] [(.double (own_bg r_)), (.int (own_max (1 : Int32) (p_ &&& (2147483647 : Int32)))), (.int (0 : Int32)), (.ref a57)])) _
        exact hh)
      obtain ⟨cq90, kq91, qa92, qb93, qc94⟩ := isOf hZ rfl E75
      obtain ⟨_, _, ⟨T79, L80, k_81, n_82⟩, -, X83, ⟨Lc84, hQ85, l_86, y_87, z_88⟩, st89⟩ := X66.virtualBack hx (y := (⟨"com/example/geirfa/geirfa/retrieval/Smoothing$JelinekMercer", "probability", "(IID)D"⟩ : MethodName)) (z := (⟨"com/example/geirfa/geirfa/retrieval/Smoothing$JelinekMercer", "probability", "(IID)D"⟩ : MethodName)) hown (mvT hZ (wT hw 19 rfl)) (mvT hZ (wT hw 20 rfl)) (notFace_of_selects (args := #[]) (mvT hZ (wT hw 22 rfl))) (mvT hZ (wT hw 22 rfl)) (mvT hZ (wT hw 21 rfl)) (by decide) (backOf (W := 0) (rmB l Z a0 hw [] a57 (0 : Int32) (own_max (1 : Int32) (p_ &&& (2147483647 : Int32))) (own_bg r_) (own_W w_) T62.heap n0 Z78 F76 (own_no1 _ _ _ _ (own_ok3 w_ r_ (p_ &&& (2147483647 : Int32)))) (own_no2 _ _ _ _ (own_ok3 w_ r_ (p_ &&& (2147483647 : Int32)))) (own_no3 _ _ _ _ (own_ok3 w_ r_ (p_ &&& (2147483647 : Int32))))) hZ (wT hw 23 rfl) (wT hw 5 rfl) (by decide) (by decide)) qa92 qc94 (g := (mkF m 106 #[.val (.int w_), .val (.int mo), .val (.int e_), .val (.int s_), .val (.int r_), .val (.int p_), .val (.int (own_A w_)), .val (.int (own_C r_)), .val (.double (own_bg r_)), .second, .val (.int (own_max (1 : Int32) (p_ &&& (2147483647 : Int32)))), .val (.int (0 : Int32)), .val (.ref a57), .unset, .unset, .unset, .unset, .unset, .unset, .unset, .unset] [(.double (own_bg r_)), (.int (own_max (1 : Int32) (p_ &&& (2147483647 : Int32)))), (.int (0 : Int32)), (.ref a57)])) rfl (by rw [hml]; rfl) (Steps.refl _) (argsL := [(.int (0 : Int32)), (.int (own_max (1 : Int32) (p_ &&& (2147483647 : Int32)))), (.double (own_bg r_))]) (rest := []) (lenOf own_h7 rfl) rfl (by show 2 * 0 + _ ≤ _; exact Nat.le_of_eq rfl) (hb hby at_106) (fun _ _ => ⟨rfl, rfl, (by decide : 1 + 0 ≤ _), (by decide : 1 + 0 ≤ _)⟩)
      dsimp only [Pt.U, Pt.locs, Pt.cells, Pt.slots] at X83 l_86 y_87 z_88 st89 hQ85
      subst l_86 y_87 z_88
      obtain ⟨rfl, N95, e96⟩ := hQ85
      have N97 := Fr.app N77 N95
      have k17 : own_K p e below (T79.setTop (mkF m 109 #[.val (.int w_), .val (.int mo), .val (.int e_), .val (.int s_), .val (.int r_), .val (.int p_), .val (.int (own_A w_)), .val (.int (own_C r_)), .val (.double (own_bg r_)), .second, .val (.int (own_max (1 : Int32) (p_ &&& (2147483647 : Int32)))), .val (.int (0 : Int32)), .val (.ref a57), .unset, .unset, .unset, .unset, .unset, .unset, .unset, .unset] [(.double (FP.dadd (FP.ddiv (FP.dmul (own_W w_) (FP.i2d (0 : Int32))) (FP.i2d (own_max (1 : Int32) (p_ &&& (2147483647 : Int32))))) (own_bg r_)))])) (s₁.setTop (entryFrame m #[(.int w_), (.int mo), (.int e_), (.int s_), (.int r_), (.int p_)] maxLocals)) := fun t hh => k16 t (st89.trans hh)
      have k18 : own_K p e below (T79.setTop (mkF m 159 #[.val (.int w_), .val (.int mo), .val (.int e_), .val (.int s_), .val (.int r_), .val (.int p_), .val (.int (own_A w_)), .val (.int (own_C r_)), .val (.double (own_bg r_)), .second, .val (.int (own_max (1 : Int32) (p_ &&& (2147483647 : Int32)))), .val (.int (0 : Int32)), .val (.ref a57), .val (.double (FP.dadd (FP.ddiv (FP.dmul (own_W w_) (FP.i2d (0 : Int32))) (FP.i2d (own_max (1 : Int32) (p_ &&& (2147483647 : Int32))))) (own_bg r_))), .second, .val (.long ((((own_A w_).toInt64) * ((0 : Int32).toInt64)) + (((own_C r_).toInt64) * ((own_max (1 : Int32) (p_ &&& (2147483647 : Int32))).toInt64)))), .second, .val (.long ((8 : Int64) * ((own_max (1 : Int32) (p_ &&& (2147483647 : Int32))).toInt64))), .second, .val (.double (FP.ddiv (FP.l2d ((((own_A w_).toInt64) * ((0 : Int32).toInt64)) + (((own_C r_).toInt64) * ((own_max (1 : Int32) (p_ &&& (2147483647 : Int32))).toInt64)))) (FP.l2d ((8 : Int64) * ((own_max (1 : Int32) (p_ &&& (2147483647 : Int32))).toInt64))))), .second] [(.int (1 : Int32))])) (s₁.setTop (entryFrame m #[(.int w_), (.int mo), (.int e_), (.int s_), (.int r_), (.int p_)] maxLocals)) := fun t hh => k17 t (by
        refine XS.dstore X83.here hx rfl (hb hby at_109) rfl (l' := #[.val (.int w_), .val (.int mo), .val (.int e_), .val (.int s_), .val (.int r_), .val (.int p_), .val (.int (own_A w_)), .val (.int (own_C r_)), .val (.double (own_bg r_)), .second, .val (.int (own_max (1 : Int32) (p_ &&& (2147483647 : Int32)))), .val (.int (0 : Int32)), .val (.ref a57), .val (.double (FP.dadd (FP.ddiv (FP.dmul (own_W w_) (FP.i2d (0 : Int32))) (FP.i2d (own_max (1 : Int32) (p_ &&& (2147483647 : Int32))))) (own_bg r_))), .second, .unset, .unset, .unset, .unset, .unset, .unset]) rfl ?_
        show Steps p.tables e below (T79.setTop (mkF m 111 #[.val (.int w_), .val (.int mo), .val (.int e_), .val (.int s_), .val (.int r_), .val (.int p_), .val (.int (own_A w_)), .val (.int (own_C r_)), .val (.double (own_bg r_)), .second, .val (.int (own_max (1 : Int32) (p_ &&& (2147483647 : Int32)))), .val (.int (0 : Int32)), .val (.ref a57), .val (.double (FP.dadd (FP.ddiv (FP.dmul (own_W w_) (FP.i2d (0 : Int32))) (FP.i2d (own_max (1 : Int32) (p_ &&& (2147483647 : Int32))))) (own_bg r_))), .second, .unset, .unset, .unset, .unset, .unset, .unset] [])) _
        refine XS.iload X83.here hx rfl (hb hby at_111) rfl ?_
        show Steps p.tables e below (T79.setTop (mkF m 113 #[.val (.int w_), .val (.int mo), .val (.int e_), .val (.int s_), .val (.int r_), .val (.int p_), .val (.int (own_A w_)), .val (.int (own_C r_)), .val (.double (own_bg r_)), .second, .val (.int (own_max (1 : Int32) (p_ &&& (2147483647 : Int32)))), .val (.int (0 : Int32)), .val (.ref a57), .val (.double (FP.dadd (FP.ddiv (FP.dmul (own_W w_) (FP.i2d (0 : Int32))) (FP.i2d (own_max (1 : Int32) (p_ &&& (2147483647 : Int32))))) (own_bg r_))), .second, .unset, .unset, .unset, .unset, .unset, .unset] [(.int (own_A w_))])) _
        refine XS.i2l X83.here hx rfl (hb hby at_113) rfl ?_
        show Steps p.tables e below (T79.setTop (mkF m 114 #[.val (.int w_), .val (.int mo), .val (.int e_), .val (.int s_), .val (.int r_), .val (.int p_), .val (.int (own_A w_)), .val (.int (own_C r_)), .val (.double (own_bg r_)), .second, .val (.int (own_max (1 : Int32) (p_ &&& (2147483647 : Int32)))), .val (.int (0 : Int32)), .val (.ref a57), .val (.double (FP.dadd (FP.ddiv (FP.dmul (own_W w_) (FP.i2d (0 : Int32))) (FP.i2d (own_max (1 : Int32) (p_ &&& (2147483647 : Int32))))) (own_bg r_))), .second, .unset, .unset, .unset, .unset, .unset, .unset] [(.long ((own_A w_).toInt64))])) _
        refine XS.iload X83.here hx rfl (hb hby at_114) rfl ?_
        show Steps p.tables e below (T79.setTop (mkF m 116 #[.val (.int w_), .val (.int mo), .val (.int e_), .val (.int s_), .val (.int r_), .val (.int p_), .val (.int (own_A w_)), .val (.int (own_C r_)), .val (.double (own_bg r_)), .second, .val (.int (own_max (1 : Int32) (p_ &&& (2147483647 : Int32)))), .val (.int (0 : Int32)), .val (.ref a57), .val (.double (FP.dadd (FP.ddiv (FP.dmul (own_W w_) (FP.i2d (0 : Int32))) (FP.i2d (own_max (1 : Int32) (p_ &&& (2147483647 : Int32))))) (own_bg r_))), .second, .unset, .unset, .unset, .unset, .unset, .unset] [(.int (0 : Int32)), (.long ((own_A w_).toInt64))])) _
        refine XS.i2l X83.here hx rfl (hb hby at_116) rfl ?_
        show Steps p.tables e below (T79.setTop (mkF m 117 #[.val (.int w_), .val (.int mo), .val (.int e_), .val (.int s_), .val (.int r_), .val (.int p_), .val (.int (own_A w_)), .val (.int (own_C r_)), .val (.double (own_bg r_)), .second, .val (.int (own_max (1 : Int32) (p_ &&& (2147483647 : Int32)))), .val (.int (0 : Int32)), .val (.ref a57), .val (.double (FP.dadd (FP.ddiv (FP.dmul (own_W w_) (FP.i2d (0 : Int32))) (FP.i2d (own_max (1 : Int32) (p_ &&& (2147483647 : Int32))))) (own_bg r_))), .second, .unset, .unset, .unset, .unset, .unset, .unset] [(.long ((0 : Int32).toInt64)), (.long ((own_A w_).toInt64))])) _
        refine XS.lmul X83.here hx rfl (hb hby at_117) rfl ?_
        show Steps p.tables e below (T79.setTop (mkF m 118 #[.val (.int w_), .val (.int mo), .val (.int e_), .val (.int s_), .val (.int r_), .val (.int p_), .val (.int (own_A w_)), .val (.int (own_C r_)), .val (.double (own_bg r_)), .second, .val (.int (own_max (1 : Int32) (p_ &&& (2147483647 : Int32)))), .val (.int (0 : Int32)), .val (.ref a57), .val (.double (FP.dadd (FP.ddiv (FP.dmul (own_W w_) (FP.i2d (0 : Int32))) (FP.i2d (own_max (1 : Int32) (p_ &&& (2147483647 : Int32))))) (own_bg r_))), .second, .unset, .unset, .unset, .unset, .unset, .unset] [(.long (((own_A w_).toInt64) * ((0 : Int32).toInt64)))])) _
        refine XS.iload X83.here hx rfl (hb hby at_118) rfl ?_
        show Steps p.tables e below (T79.setTop (mkF m 120 #[.val (.int w_), .val (.int mo), .val (.int e_), .val (.int s_), .val (.int r_), .val (.int p_), .val (.int (own_A w_)), .val (.int (own_C r_)), .val (.double (own_bg r_)), .second, .val (.int (own_max (1 : Int32) (p_ &&& (2147483647 : Int32)))), .val (.int (0 : Int32)), .val (.ref a57), .val (.double (FP.dadd (FP.ddiv (FP.dmul (own_W w_) (FP.i2d (0 : Int32))) (FP.i2d (own_max (1 : Int32) (p_ &&& (2147483647 : Int32))))) (own_bg r_))), .second, .unset, .unset, .unset, .unset, .unset, .unset] [(.int (own_C r_)), (.long (((own_A w_).toInt64) * ((0 : Int32).toInt64)))])) _
        refine XS.i2l X83.here hx rfl (hb hby at_120) rfl ?_
        show Steps p.tables e below (T79.setTop (mkF m 121 #[.val (.int w_), .val (.int mo), .val (.int e_), .val (.int s_), .val (.int r_), .val (.int p_), .val (.int (own_A w_)), .val (.int (own_C r_)), .val (.double (own_bg r_)), .second, .val (.int (own_max (1 : Int32) (p_ &&& (2147483647 : Int32)))), .val (.int (0 : Int32)), .val (.ref a57), .val (.double (FP.dadd (FP.ddiv (FP.dmul (own_W w_) (FP.i2d (0 : Int32))) (FP.i2d (own_max (1 : Int32) (p_ &&& (2147483647 : Int32))))) (own_bg r_))), .second, .unset, .unset, .unset, .unset, .unset, .unset] [(.long ((own_C r_).toInt64)), (.long (((own_A w_).toInt64) * ((0 : Int32).toInt64)))])) _
        refine XS.iload X83.here hx rfl (hb hby at_121) rfl ?_
        show Steps p.tables e below (T79.setTop (mkF m 123 #[.val (.int w_), .val (.int mo), .val (.int e_), .val (.int s_), .val (.int r_), .val (.int p_), .val (.int (own_A w_)), .val (.int (own_C r_)), .val (.double (own_bg r_)), .second, .val (.int (own_max (1 : Int32) (p_ &&& (2147483647 : Int32)))), .val (.int (0 : Int32)), .val (.ref a57), .val (.double (FP.dadd (FP.ddiv (FP.dmul (own_W w_) (FP.i2d (0 : Int32))) (FP.i2d (own_max (1 : Int32) (p_ &&& (2147483647 : Int32))))) (own_bg r_))), .second, .unset, .unset, .unset, .unset, .unset, .unset] [(.int (own_max (1 : Int32) (p_ &&& (2147483647 : Int32)))), (.long ((own_C r_).toInt64)), (.long (((own_A w_).toInt64) * ((0 : Int32).toInt64)))])) _
        refine XS.i2l X83.here hx rfl (hb hby at_123) rfl ?_
        show Steps p.tables e below (T79.setTop (mkF m 124 #[.val (.int w_), .val (.int mo), .val (.int e_), .val (.int s_), .val (.int r_), .val (.int p_), .val (.int (own_A w_)), .val (.int (own_C r_)), .val (.double (own_bg r_)), .second, .val (.int (own_max (1 : Int32) (p_ &&& (2147483647 : Int32)))), .val (.int (0 : Int32)), .val (.ref a57), .val (.double (FP.dadd (FP.ddiv (FP.dmul (own_W w_) (FP.i2d (0 : Int32))) (FP.i2d (own_max (1 : Int32) (p_ &&& (2147483647 : Int32))))) (own_bg r_))), .second, .unset, .unset, .unset, .unset, .unset, .unset] [(.long ((own_max (1 : Int32) (p_ &&& (2147483647 : Int32))).toInt64)), (.long ((own_C r_).toInt64)), (.long (((own_A w_).toInt64) * ((0 : Int32).toInt64)))])) _
        refine XS.lmul X83.here hx rfl (hb hby at_124) rfl ?_
        show Steps p.tables e below (T79.setTop (mkF m 125 #[.val (.int w_), .val (.int mo), .val (.int e_), .val (.int s_), .val (.int r_), .val (.int p_), .val (.int (own_A w_)), .val (.int (own_C r_)), .val (.double (own_bg r_)), .second, .val (.int (own_max (1 : Int32) (p_ &&& (2147483647 : Int32)))), .val (.int (0 : Int32)), .val (.ref a57), .val (.double (FP.dadd (FP.ddiv (FP.dmul (own_W w_) (FP.i2d (0 : Int32))) (FP.i2d (own_max (1 : Int32) (p_ &&& (2147483647 : Int32))))) (own_bg r_))), .second, .unset, .unset, .unset, .unset, .unset, .unset] [(.long (((own_C r_).toInt64) * ((own_max (1 : Int32) (p_ &&& (2147483647 : Int32))).toInt64))), (.long (((own_A w_).toInt64) * ((0 : Int32).toInt64)))])) _
        refine XS.ladd X83.here hx rfl (hb hby at_125) rfl ?_
        show Steps p.tables e below (T79.setTop (mkF m 126 #[.val (.int w_), .val (.int mo), .val (.int e_), .val (.int s_), .val (.int r_), .val (.int p_), .val (.int (own_A w_)), .val (.int (own_C r_)), .val (.double (own_bg r_)), .second, .val (.int (own_max (1 : Int32) (p_ &&& (2147483647 : Int32)))), .val (.int (0 : Int32)), .val (.ref a57), .val (.double (FP.dadd (FP.ddiv (FP.dmul (own_W w_) (FP.i2d (0 : Int32))) (FP.i2d (own_max (1 : Int32) (p_ &&& (2147483647 : Int32))))) (own_bg r_))), .second, .unset, .unset, .unset, .unset, .unset, .unset] [(.long ((((own_A w_).toInt64) * ((0 : Int32).toInt64)) + (((own_C r_).toInt64) * ((own_max (1 : Int32) (p_ &&& (2147483647 : Int32))).toInt64))))])) _
        refine XS.lstore X83.here hx rfl (hb hby at_126) rfl (l' := #[.val (.int w_), .val (.int mo), .val (.int e_), .val (.int s_), .val (.int r_), .val (.int p_), .val (.int (own_A w_)), .val (.int (own_C r_)), .val (.double (own_bg r_)), .second, .val (.int (own_max (1 : Int32) (p_ &&& (2147483647 : Int32)))), .val (.int (0 : Int32)), .val (.ref a57), .val (.double (FP.dadd (FP.ddiv (FP.dmul (own_W w_) (FP.i2d (0 : Int32))) (FP.i2d (own_max (1 : Int32) (p_ &&& (2147483647 : Int32))))) (own_bg r_))), .second, .val (.long ((((own_A w_).toInt64) * ((0 : Int32).toInt64)) + (((own_C r_).toInt64) * ((own_max (1 : Int32) (p_ &&& (2147483647 : Int32))).toInt64)))), .second, .unset, .unset, .unset, .unset]) rfl ?_
        show Steps p.tables e below (T79.setTop (mkF m 128 #[.val (.int w_), .val (.int mo), .val (.int e_), .val (.int s_), .val (.int r_), .val (.int p_), .val (.int (own_A w_)), .val (.int (own_C r_)), .val (.double (own_bg r_)), .second, .val (.int (own_max (1 : Int32) (p_ &&& (2147483647 : Int32)))), .val (.int (0 : Int32)), .val (.ref a57), .val (.double (FP.dadd (FP.ddiv (FP.dmul (own_W w_) (FP.i2d (0 : Int32))) (FP.i2d (own_max (1 : Int32) (p_ &&& (2147483647 : Int32))))) (own_bg r_))), .second, .val (.long ((((own_A w_).toInt64) * ((0 : Int32).toInt64)) + (((own_C r_).toInt64) * ((own_max (1 : Int32) (p_ &&& (2147483647 : Int32))).toInt64)))), .second, .unset, .unset, .unset, .unset] [])) _
        refine X83.ldc2Long hx hown (mvT hZ (wT hw 24 rfl)) (g := (mkF m 128 #[.val (.int w_), .val (.int mo), .val (.int e_), .val (.int s_), .val (.int r_), .val (.int p_), .val (.int (own_A w_)), .val (.int (own_C r_)), .val (.double (own_bg r_)), .second, .val (.int (own_max (1 : Int32) (p_ &&& (2147483647 : Int32)))), .val (.int (0 : Int32)), .val (.ref a57), .val (.double (FP.dadd (FP.ddiv (FP.dmul (own_W w_) (FP.i2d (0 : Int32))) (FP.i2d (own_max (1 : Int32) (p_ &&& (2147483647 : Int32))))) (own_bg r_))), .second, .val (.long ((((own_A w_).toInt64) * ((0 : Int32).toInt64)) + (((own_C r_).toInt64) * ((own_max (1 : Int32) (p_ &&& (2147483647 : Int32))).toInt64)))), .second, .unset, .unset, .unset, .unset] [])) rfl (hb hby at_128) _ ?_
        show Steps p.tables e below (T79.setTop (mkF m 131 #[.val (.int w_), .val (.int mo), .val (.int e_), .val (.int s_), .val (.int r_), .val (.int p_), .val (.int (own_A w_)), .val (.int (own_C r_)), .val (.double (own_bg r_)), .second, .val (.int (own_max (1 : Int32) (p_ &&& (2147483647 : Int32)))), .val (.int (0 : Int32)), .val (.ref a57), .val (.double (FP.dadd (FP.ddiv (FP.dmul (own_W w_) (FP.i2d (0 : Int32))) (FP.i2d (own_max (1 : Int32) (p_ &&& (2147483647 : Int32))))) (own_bg r_))), .second, .val (.long ((((own_A w_).toInt64) * ((0 : Int32).toInt64)) + (((own_C r_).toInt64) * ((own_max (1 : Int32) (p_ &&& (2147483647 : Int32))).toInt64)))), .second, .unset, .unset, .unset, .unset] [(.long (8 : Int64))])) _
        refine XS.iload X83.here hx rfl (hb hby at_131) rfl ?_
        show Steps p.tables e below (T79.setTop (mkF m 133 #[.val (.int w_), .val (.int mo), .val (.int e_), .val (.int s_), .val (.int r_), .val (.int p_), .val (.int (own_A w_)), .val (.int (own_C r_)), .val (.double (own_bg r_)), .second, .val (.int (own_max (1 : Int32) (p_ &&& (2147483647 : Int32)))), .val (.int (0 : Int32)), .val (.ref a57), .val (.double (FP.dadd (FP.ddiv (FP.dmul (own_W w_) (FP.i2d (0 : Int32))) (FP.i2d (own_max (1 : Int32) (p_ &&& (2147483647 : Int32))))) (own_bg r_))), .second, .val (.long ((((own_A w_).toInt64) * ((0 : Int32).toInt64)) + (((own_C r_).toInt64) * ((own_max (1 : Int32) (p_ &&& (2147483647 : Int32))).toInt64)))), .second, .unset, .unset, .unset, .unset] [(.int (own_max (1 : Int32) (p_ &&& (2147483647 : Int32)))), (.long (8 : Int64))])) _
        refine XS.i2l X83.here hx rfl (hb hby at_133) rfl ?_
        show Steps p.tables e below (T79.setTop (mkF m 134 #[.val (.int w_), .val (.int mo), .val (.int e_), .val (.int s_), .val (.int r_), .val (.int p_), .val (.int (own_A w_)), .val (.int (own_C r_)), .val (.double (own_bg r_)), .second, .val (.int (own_max (1 : Int32) (p_ &&& (2147483647 : Int32)))), .val (.int (0 : Int32)), .val (.ref a57), .val (.double (FP.dadd (FP.ddiv (FP.dmul (own_W w_) (FP.i2d (0 : Int32))) (FP.i2d (own_max (1 : Int32) (p_ &&& (2147483647 : Int32))))) (own_bg r_))), .second, .val (.long ((((own_A w_).toInt64) * ((0 : Int32).toInt64)) + (((own_C r_).toInt64) * ((own_max (1 : Int32) (p_ &&& (2147483647 : Int32))).toInt64)))), .second, .unset, .unset, .unset, .unset] [(.long ((own_max (1 : Int32) (p_ &&& (2147483647 : Int32))).toInt64)), (.long (8 : Int64))])) _
        refine XS.lmul X83.here hx rfl (hb hby at_134) rfl ?_
        show Steps p.tables e below (T79.setTop (mkF m 135 #[.val (.int w_), .val (.int mo), .val (.int e_), .val (.int s_), .val (.int r_), .val (.int p_), .val (.int (own_A w_)), .val (.int (own_C r_)), .val (.double (own_bg r_)), .second, .val (.int (own_max (1 : Int32) (p_ &&& (2147483647 : Int32)))), .val (.int (0 : Int32)), .val (.ref a57), .val (.double (FP.dadd (FP.ddiv (FP.dmul (own_W w_) (FP.i2d (0 : Int32))) (FP.i2d (own_max (1 : Int32) (p_ &&& (2147483647 : Int32))))) (own_bg r_))), .second, .val (.long ((((own_A w_).toInt64) * ((0 : Int32).toInt64)) + (((own_C r_).toInt64) * ((own_max (1 : Int32) (p_ &&& (2147483647 : Int32))).toInt64)))), .second, .unset, .unset, .unset, .unset] [(.long ((8 : Int64) * ((own_max (1 : Int32) (p_ &&& (2147483647 : Int32))).toInt64)))])) _
        refine XS.lstore X83.here hx rfl (hb hby at_135) rfl (l' := #[.val (.int w_), .val (.int mo), .val (.int e_), .val (.int s_), .val (.int r_), .val (.int p_), .val (.int (own_A w_)), .val (.int (own_C r_)), .val (.double (own_bg r_)), .second, .val (.int (own_max (1 : Int32) (p_ &&& (2147483647 : Int32)))), .val (.int (0 : Int32)), .val (.ref a57), .val (.double (FP.dadd (FP.ddiv (FP.dmul (own_W w_) (FP.i2d (0 : Int32))) (FP.i2d (own_max (1 : Int32) (p_ &&& (2147483647 : Int32))))) (own_bg r_))), .second, .val (.long ((((own_A w_).toInt64) * ((0 : Int32).toInt64)) + (((own_C r_).toInt64) * ((own_max (1 : Int32) (p_ &&& (2147483647 : Int32))).toInt64)))), .second, .val (.long ((8 : Int64) * ((own_max (1 : Int32) (p_ &&& (2147483647 : Int32))).toInt64))), .second, .unset, .unset]) rfl ?_
        show Steps p.tables e below (T79.setTop (mkF m 137 #[.val (.int w_), .val (.int mo), .val (.int e_), .val (.int s_), .val (.int r_), .val (.int p_), .val (.int (own_A w_)), .val (.int (own_C r_)), .val (.double (own_bg r_)), .second, .val (.int (own_max (1 : Int32) (p_ &&& (2147483647 : Int32)))), .val (.int (0 : Int32)), .val (.ref a57), .val (.double (FP.dadd (FP.ddiv (FP.dmul (own_W w_) (FP.i2d (0 : Int32))) (FP.i2d (own_max (1 : Int32) (p_ &&& (2147483647 : Int32))))) (own_bg r_))), .second, .val (.long ((((own_A w_).toInt64) * ((0 : Int32).toInt64)) + (((own_C r_).toInt64) * ((own_max (1 : Int32) (p_ &&& (2147483647 : Int32))).toInt64)))), .second, .val (.long ((8 : Int64) * ((own_max (1 : Int32) (p_ &&& (2147483647 : Int32))).toInt64))), .second, .unset, .unset] [])) _
        refine XS.lload X83.here hx rfl (hb hby at_137) rfl ?_
        show Steps p.tables e below (T79.setTop (mkF m 139 #[.val (.int w_), .val (.int mo), .val (.int e_), .val (.int s_), .val (.int r_), .val (.int p_), .val (.int (own_A w_)), .val (.int (own_C r_)), .val (.double (own_bg r_)), .second, .val (.int (own_max (1 : Int32) (p_ &&& (2147483647 : Int32)))), .val (.int (0 : Int32)), .val (.ref a57), .val (.double (FP.dadd (FP.ddiv (FP.dmul (own_W w_) (FP.i2d (0 : Int32))) (FP.i2d (own_max (1 : Int32) (p_ &&& (2147483647 : Int32))))) (own_bg r_))), .second, .val (.long ((((own_A w_).toInt64) * ((0 : Int32).toInt64)) + (((own_C r_).toInt64) * ((own_max (1 : Int32) (p_ &&& (2147483647 : Int32))).toInt64)))), .second, .val (.long ((8 : Int64) * ((own_max (1 : Int32) (p_ &&& (2147483647 : Int32))).toInt64))), .second, .unset, .unset] [(.long ((((own_A w_).toInt64) * ((0 : Int32).toInt64)) + (((own_C r_).toInt64) * ((own_max (1 : Int32) (p_ &&& (2147483647 : Int32))).toInt64))))])) _
        refine XS.l2dS X83.here hx rfl (hb hby at_139) rfl rfl ?_
        show Steps p.tables e below (T79.setTop (mkF m 140 #[.val (.int w_), .val (.int mo), .val (.int e_), .val (.int s_), .val (.int r_), .val (.int p_), .val (.int (own_A w_)), .val (.int (own_C r_)), .val (.double (own_bg r_)), .second, .val (.int (own_max (1 : Int32) (p_ &&& (2147483647 : Int32)))), .val (.int (0 : Int32)), .val (.ref a57), .val (.double (FP.dadd (FP.ddiv (FP.dmul (own_W w_) (FP.i2d (0 : Int32))) (FP.i2d (own_max (1 : Int32) (p_ &&& (2147483647 : Int32))))) (own_bg r_))), .second, .val (.long ((((own_A w_).toInt64) * ((0 : Int32).toInt64)) + (((own_C r_).toInt64) * ((own_max (1 : Int32) (p_ &&& (2147483647 : Int32))).toInt64)))), .second, .val (.long ((8 : Int64) * ((own_max (1 : Int32) (p_ &&& (2147483647 : Int32))).toInt64))), .second, .unset, .unset] [(.double (FP.l2d ((((own_A w_).toInt64) * ((0 : Int32).toInt64)) + (((own_C r_).toInt64) * ((own_max (1 : Int32) (p_ &&& (2147483647 : Int32))).toInt64)))))])) _
        refine XS.lload X83.here hx rfl (hb hby at_140) rfl ?_
        show Steps p.tables e below (T79.setTop (mkF m 142 #[.val (.int w_), .val (.int mo), .val (.int e_), .val (.int s_), .val (.int r_), .val (.int p_), .val (.int (own_A w_)), .val (.int (own_C r_)), .val (.double (own_bg r_)), .second, .val (.int (own_max (1 : Int32) (p_ &&& (2147483647 : Int32)))), .val (.int (0 : Int32)), .val (.ref a57), .val (.double (FP.dadd (FP.ddiv (FP.dmul (own_W w_) (FP.i2d (0 : Int32))) (FP.i2d (own_max (1 : Int32) (p_ &&& (2147483647 : Int32))))) (own_bg r_))), .second, .val (.long ((((own_A w_).toInt64) * ((0 : Int32).toInt64)) + (((own_C r_).toInt64) * ((own_max (1 : Int32) (p_ &&& (2147483647 : Int32))).toInt64)))), .second, .val (.long ((8 : Int64) * ((own_max (1 : Int32) (p_ &&& (2147483647 : Int32))).toInt64))), .second, .unset, .unset] [(.long ((8 : Int64) * ((own_max (1 : Int32) (p_ &&& (2147483647 : Int32))).toInt64))), (.double (FP.l2d ((((own_A w_).toInt64) * ((0 : Int32).toInt64)) + (((own_C r_).toInt64) * ((own_max (1 : Int32) (p_ &&& (2147483647 : Int32))).toInt64)))))])) _
        refine XS.l2dS X83.here hx rfl (hb hby at_142) rfl rfl ?_
        show Steps p.tables e below (T79.setTop (mkF m 143 #[.val (.int w_), .val (.int mo), .val (.int e_), .val (.int s_), .val (.int r_), .val (.int p_), .val (.int (own_A w_)), .val (.int (own_C r_)), .val (.double (own_bg r_)), .second, .val (.int (own_max (1 : Int32) (p_ &&& (2147483647 : Int32)))), .val (.int (0 : Int32)), .val (.ref a57), .val (.double (FP.dadd (FP.ddiv (FP.dmul (own_W w_) (FP.i2d (0 : Int32))) (FP.i2d (own_max (1 : Int32) (p_ &&& (2147483647 : Int32))))) (own_bg r_))), .second, .val (.long ((((own_A w_).toInt64) * ((0 : Int32).toInt64)) + (((own_C r_).toInt64) * ((own_max (1 : Int32) (p_ &&& (2147483647 : Int32))).toInt64)))), .second, .val (.long ((8 : Int64) * ((own_max (1 : Int32) (p_ &&& (2147483647 : Int32))).toInt64))), .second, .unset, .unset] [(.double (FP.l2d ((8 : Int64) * ((own_max (1 : Int32) (p_ &&& (2147483647 : Int32))).toInt64)))), (.double (FP.l2d ((((own_A w_).toInt64) * ((0 : Int32).toInt64)) + (((own_C r_).toInt64) * ((own_max (1 : Int32) (p_ &&& (2147483647 : Int32))).toInt64)))))])) _
        refine XS.ddivS X83.here hx rfl (hb hby at_143) rfl (own_no4 _ _ _ _ (own_ok3 w_ r_ (p_ &&& (2147483647 : Int32)))) rfl ?_
        show Steps p.tables e below (T79.setTop (mkF m 144 #[.val (.int w_), .val (.int mo), .val (.int e_), .val (.int s_), .val (.int r_), .val (.int p_), .val (.int (own_A w_)), .val (.int (own_C r_)), .val (.double (own_bg r_)), .second, .val (.int (own_max (1 : Int32) (p_ &&& (2147483647 : Int32)))), .val (.int (0 : Int32)), .val (.ref a57), .val (.double (FP.dadd (FP.ddiv (FP.dmul (own_W w_) (FP.i2d (0 : Int32))) (FP.i2d (own_max (1 : Int32) (p_ &&& (2147483647 : Int32))))) (own_bg r_))), .second, .val (.long ((((own_A w_).toInt64) * ((0 : Int32).toInt64)) + (((own_C r_).toInt64) * ((own_max (1 : Int32) (p_ &&& (2147483647 : Int32))).toInt64)))), .second, .val (.long ((8 : Int64) * ((own_max (1 : Int32) (p_ &&& (2147483647 : Int32))).toInt64))), .second, .unset, .unset] [(.double (FP.ddiv (FP.l2d ((((own_A w_).toInt64) * ((0 : Int32).toInt64)) + (((own_C r_).toInt64) * ((own_max (1 : Int32) (p_ &&& (2147483647 : Int32))).toInt64)))) (FP.l2d ((8 : Int64) * ((own_max (1 : Int32) (p_ &&& (2147483647 : Int32))).toInt64)))))])) _
        refine XS.dstore X83.here hx rfl (hb hby at_144) rfl (l' := #[.val (.int w_), .val (.int mo), .val (.int e_), .val (.int s_), .val (.int r_), .val (.int p_), .val (.int (own_A w_)), .val (.int (own_C r_)), .val (.double (own_bg r_)), .second, .val (.int (own_max (1 : Int32) (p_ &&& (2147483647 : Int32)))), .val (.int (0 : Int32)), .val (.ref a57), .val (.double (FP.dadd (FP.ddiv (FP.dmul (own_W w_) (FP.i2d (0 : Int32))) (FP.i2d (own_max (1 : Int32) (p_ &&& (2147483647 : Int32))))) (own_bg r_))), .second, .val (.long ((((own_A w_).toInt64) * ((0 : Int32).toInt64)) + (((own_C r_).toInt64) * ((own_max (1 : Int32) (p_ &&& (2147483647 : Int32))).toInt64)))), .second, .val (.long ((8 : Int64) * ((own_max (1 : Int32) (p_ &&& (2147483647 : Int32))).toInt64))), .second, .val (.double (FP.ddiv (FP.l2d ((((own_A w_).toInt64) * ((0 : Int32).toInt64)) + (((own_C r_).toInt64) * ((own_max (1 : Int32) (p_ &&& (2147483647 : Int32))).toInt64)))) (FP.l2d ((8 : Int64) * ((own_max (1 : Int32) (p_ &&& (2147483647 : Int32))).toInt64))))), .second]) rfl ?_
        show Steps p.tables e below (T79.setTop (mkF m 146 #[.val (.int w_), .val (.int mo), .val (.int e_), .val (.int s_), .val (.int r_), .val (.int p_), .val (.int (own_A w_)), .val (.int (own_C r_)), .val (.double (own_bg r_)), .second, .val (.int (own_max (1 : Int32) (p_ &&& (2147483647 : Int32)))), .val (.int (0 : Int32)), .val (.ref a57), .val (.double (FP.dadd (FP.ddiv (FP.dmul (own_W w_) (FP.i2d (0 : Int32))) (FP.i2d (own_max (1 : Int32) (p_ &&& (2147483647 : Int32))))) (own_bg r_))), .second, .val (.long ((((own_A w_).toInt64) * ((0 : Int32).toInt64)) + (((own_C r_).toInt64) * ((own_max (1 : Int32) (p_ &&& (2147483647 : Int32))).toInt64)))), .second, .val (.long ((8 : Int64) * ((own_max (1 : Int32) (p_ &&& (2147483647 : Int32))).toInt64))), .second, .val (.double (FP.ddiv (FP.l2d ((((own_A w_).toInt64) * ((0 : Int32).toInt64)) + (((own_C r_).toInt64) * ((own_max (1 : Int32) (p_ &&& (2147483647 : Int32))).toInt64)))) (FP.l2d ((8 : Int64) * ((own_max (1 : Int32) (p_ &&& (2147483647 : Int32))).toInt64))))), .second] [])) _
        refine XS.dload X83.here hx rfl (hb hby at_146) rfl ?_
        show Steps p.tables e below (T79.setTop (mkF m 148 #[.val (.int w_), .val (.int mo), .val (.int e_), .val (.int s_), .val (.int r_), .val (.int p_), .val (.int (own_A w_)), .val (.int (own_C r_)), .val (.double (own_bg r_)), .second, .val (.int (own_max (1 : Int32) (p_ &&& (2147483647 : Int32)))), .val (.int (0 : Int32)), .val (.ref a57), .val (.double (FP.dadd (FP.ddiv (FP.dmul (own_W w_) (FP.i2d (0 : Int32))) (FP.i2d (own_max (1 : Int32) (p_ &&& (2147483647 : Int32))))) (own_bg r_))), .second, .val (.long ((((own_A w_).toInt64) * ((0 : Int32).toInt64)) + (((own_C r_).toInt64) * ((own_max (1 : Int32) (p_ &&& (2147483647 : Int32))).toInt64)))), .second, .val (.long ((8 : Int64) * ((own_max (1 : Int32) (p_ &&& (2147483647 : Int32))).toInt64))), .second, .val (.double (FP.ddiv (FP.l2d ((((own_A w_).toInt64) * ((0 : Int32).toInt64)) + (((own_C r_).toInt64) * ((own_max (1 : Int32) (p_ &&& (2147483647 : Int32))).toInt64)))) (FP.l2d ((8 : Int64) * ((own_max (1 : Int32) (p_ &&& (2147483647 : Int32))).toInt64))))), .second] [(.double (FP.dadd (FP.ddiv (FP.dmul (own_W w_) (FP.i2d (0 : Int32))) (FP.i2d (own_max (1 : Int32) (p_ &&& (2147483647 : Int32))))) (own_bg r_)))])) _
        refine XS.dload X83.here hx rfl (hb hby at_148) rfl ?_
        show Steps p.tables e below (T79.setTop (mkF m 150 #[.val (.int w_), .val (.int mo), .val (.int e_), .val (.int s_), .val (.int r_), .val (.int p_), .val (.int (own_A w_)), .val (.int (own_C r_)), .val (.double (own_bg r_)), .second, .val (.int (own_max (1 : Int32) (p_ &&& (2147483647 : Int32)))), .val (.int (0 : Int32)), .val (.ref a57), .val (.double (FP.dadd (FP.ddiv (FP.dmul (own_W w_) (FP.i2d (0 : Int32))) (FP.i2d (own_max (1 : Int32) (p_ &&& (2147483647 : Int32))))) (own_bg r_))), .second, .val (.long ((((own_A w_).toInt64) * ((0 : Int32).toInt64)) + (((own_C r_).toInt64) * ((own_max (1 : Int32) (p_ &&& (2147483647 : Int32))).toInt64)))), .second, .val (.long ((8 : Int64) * ((own_max (1 : Int32) (p_ &&& (2147483647 : Int32))).toInt64))), .second, .val (.double (FP.ddiv (FP.l2d ((((own_A w_).toInt64) * ((0 : Int32).toInt64)) + (((own_C r_).toInt64) * ((own_max (1 : Int32) (p_ &&& (2147483647 : Int32))).toInt64)))) (FP.l2d ((8 : Int64) * ((own_max (1 : Int32) (p_ &&& (2147483647 : Int32))).toInt64))))), .second] [(.double (FP.ddiv (FP.l2d ((((own_A w_).toInt64) * ((0 : Int32).toInt64)) + (((own_C r_).toInt64) * ((own_max (1 : Int32) (p_ &&& (2147483647 : Int32))).toInt64)))) (FP.l2d ((8 : Int64) * ((own_max (1 : Int32) (p_ &&& (2147483647 : Int32))).toInt64))))), (.double (FP.dadd (FP.ddiv (FP.dmul (own_W w_) (FP.i2d (0 : Int32))) (FP.i2d (own_max (1 : Int32) (p_ &&& (2147483647 : Int32))))) (own_bg r_)))])) _
        refine XS.dcmpS X83.here hx rfl (hb hby at_150) rfl (own_fin _ _ _ _ (own_ok3 w_ r_ (p_ &&& (2147483647 : Int32)))) ?_
        show Steps p.tables e below (T79.setTop (mkF m 151 #[.val (.int w_), .val (.int mo), .val (.int e_), .val (.int s_), .val (.int r_), .val (.int p_), .val (.int (own_A w_)), .val (.int (own_C r_)), .val (.double (own_bg r_)), .second, .val (.int (own_max (1 : Int32) (p_ &&& (2147483647 : Int32)))), .val (.int (0 : Int32)), .val (.ref a57), .val (.double (FP.dadd (FP.ddiv (FP.dmul (own_W w_) (FP.i2d (0 : Int32))) (FP.i2d (own_max (1 : Int32) (p_ &&& (2147483647 : Int32))))) (own_bg r_))), .second, .val (.long ((((own_A w_).toInt64) * ((0 : Int32).toInt64)) + (((own_C r_).toInt64) * ((own_max (1 : Int32) (p_ &&& (2147483647 : Int32))).toInt64)))), .second, .val (.long ((8 : Int64) * ((own_max (1 : Int32) (p_ &&& (2147483647 : Int32))).toInt64))), .second, .val (.double (FP.ddiv (FP.l2d ((((own_A w_).toInt64) * ((0 : Int32).toInt64)) + (((own_C r_).toInt64) * ((own_max (1 : Int32) (p_ &&& (2147483647 : Int32))).toInt64)))) (FP.l2d ((8 : Int64) * ((own_max (1 : Int32) (p_ &&& (2147483647 : Int32))).toInt64))))), .second] [(.int (0 : Int32))])) _
        refine XS.ifNo X83.here hx rfl (hb hby at_151) rfl (by decide) ?_
        show Steps p.tables e below (T79.setTop (mkF m 154 #[.val (.int w_), .val (.int mo), .val (.int e_), .val (.int s_), .val (.int r_), .val (.int p_), .val (.int (own_A w_)), .val (.int (own_C r_)), .val (.double (own_bg r_)), .second, .val (.int (own_max (1 : Int32) (p_ &&& (2147483647 : Int32)))), .val (.int (0 : Int32)), .val (.ref a57), .val (.double (FP.dadd (FP.ddiv (FP.dmul (own_W w_) (FP.i2d (0 : Int32))) (FP.i2d (own_max (1 : Int32) (p_ &&& (2147483647 : Int32))))) (own_bg r_))), .second, .val (.long ((((own_A w_).toInt64) * ((0 : Int32).toInt64)) + (((own_C r_).toInt64) * ((own_max (1 : Int32) (p_ &&& (2147483647 : Int32))).toInt64)))), .second, .val (.long ((8 : Int64) * ((own_max (1 : Int32) (p_ &&& (2147483647 : Int32))).toInt64))), .second, .val (.double (FP.ddiv (FP.l2d ((((own_A w_).toInt64) * ((0 : Int32).toInt64)) + (((own_C r_).toInt64) * ((own_max (1 : Int32) (p_ &&& (2147483647 : Int32))).toInt64)))) (FP.l2d ((8 : Int64) * ((own_max (1 : Int32) (p_ &&& (2147483647 : Int32))).toInt64))))), .second] [])) _
        refine XS.iconst X83.here hx rfl (hb hby at_154) ?_
        show Steps p.tables e below (T79.setTop (mkF m 155 #[.val (.int w_), .val (.int mo), .val (.int e_), .val (.int s_), .val (.int r_), .val (.int p_), .val (.int (own_A w_)), .val (.int (own_C r_)), .val (.double (own_bg r_)), .second, .val (.int (own_max (1 : Int32) (p_ &&& (2147483647 : Int32)))), .val (.int (0 : Int32)), .val (.ref a57), .val (.double (FP.dadd (FP.ddiv (FP.dmul (own_W w_) (FP.i2d (0 : Int32))) (FP.i2d (own_max (1 : Int32) (p_ &&& (2147483647 : Int32))))) (own_bg r_))), .second, .val (.long ((((own_A w_).toInt64) * ((0 : Int32).toInt64)) + (((own_C r_).toInt64) * ((own_max (1 : Int32) (p_ &&& (2147483647 : Int32))).toInt64)))), .second, .val (.long ((8 : Int64) * ((own_max (1 : Int32) (p_ &&& (2147483647 : Int32))).toInt64))), .second, .val (.double (FP.ddiv (FP.l2d ((((own_A w_).toInt64) * ((0 : Int32).toInt64)) + (((own_C r_).toInt64) * ((own_max (1 : Int32) (p_ &&& (2147483647 : Int32))).toInt64)))) (FP.l2d ((8 : Int64) * ((own_max (1 : Int32) (p_ &&& (2147483647 : Int32))).toInt64))))), .second] [(.int (1 : Int32))])) _
        refine XS.goto X83.here hx rfl (pc0 := 155) (pc' := 159) rfl (hb hby at_155) (by decide) (by decide) ?_
        show Steps p.tables e below (T79.setTop (mkF m 159 #[.val (.int w_), .val (.int mo), .val (.int e_), .val (.int s_), .val (.int r_), .val (.int p_), .val (.int (own_A w_)), .val (.int (own_C r_)), .val (.double (own_bg r_)), .second, .val (.int (own_max (1 : Int32) (p_ &&& (2147483647 : Int32)))), .val (.int (0 : Int32)), .val (.ref a57), .val (.double (FP.dadd (FP.ddiv (FP.dmul (own_W w_) (FP.i2d (0 : Int32))) (FP.i2d (own_max (1 : Int32) (p_ &&& (2147483647 : Int32))))) (own_bg r_))), .second, .val (.long ((((own_A w_).toInt64) * ((0 : Int32).toInt64)) + (((own_C r_).toInt64) * ((own_max (1 : Int32) (p_ &&& (2147483647 : Int32))).toInt64)))), .second, .val (.long ((8 : Int64) * ((own_max (1 : Int32) (p_ &&& (2147483647 : Int32))).toInt64))), .second, .val (.double (FP.ddiv (FP.l2d ((((own_A w_).toInt64) * ((0 : Int32).toInt64)) + (((own_C r_).toInt64) * ((own_max (1 : Int32) (p_ &&& (2147483647 : Int32))).toInt64)))) (FP.l2d ((8 : Int64) * ((own_max (1 : Int32) (p_ &&& (2147483647 : Int32))).toInt64))))), .second] [(.int (1 : Int32))])) _
        exact hh)
      obtain ⟨fs, hr, hrun, hended, hW, hsame⟩ := X83.leave (v := some (.int (1 : Int32))) (fun h => by rw [Bd.returns] at h; cases h)
      refine ⟨_, _, k18 _ (retN X83 hx (t := .boolean) Bd.returns (by simp) (hb hby at_159) hr), hrun, hended, _, _, rfl, ?_, ⟨_, rfl⟩, hW, hsame.mono (by decide) (by decide)⟩
      show QL h0 n0 _ T79.heap _
      rw [e96]
      exact ⟨rfl, N97⟩
    ·
      have k19 : own_K p e below (T34.setTop (mkF m 82 #[.val (.int w_), .val (.int mo), .val (.int e_), .val (.int s_), .val (.int r_), .val (.int p_), .val (.int (own_A w_)), .val (.int (own_C r_)), .val (.double (own_bg r_)), .second, .val (.int (own_max (1 : Int32) (p_ &&& (2147483647 : Int32)))), .val (.int (own_max (1 : Int32) (p_ &&& (2147483647 : Int32)))), .unset, .unset, .unset, .unset, .unset, .unset, .unset, .unset, .unset] [])) (s₁.setTop (entryFrame m #[(.int w_), (.int mo), (.int e_), (.int s_), (.int r_), (.int p_)] maxLocals)) := fun t hh => k10 t (by
        refine XS.ifNo X38.here hx rfl (hb hby at_71) rfl (own_ifF_eq c71) ?_
        show Steps p.tables e below (T34.setTop (mkF m 74 #[.val (.int w_), .val (.int mo), .val (.int e_), .val (.int s_), .val (.int r_), .val (.int p_), .val (.int (own_A w_)), .val (.int (own_C r_)), .val (.double (own_bg r_)), .second, .val (.int (own_max (1 : Int32) (p_ &&& (2147483647 : Int32)))), .unset, .unset, .unset, .unset, .unset, .unset, .unset, .unset, .unset, .unset] [])) _
        refine XS.iload X38.here hx rfl (hb hby at_74) rfl ?_
        show Steps p.tables e below (T34.setTop (mkF m 76 #[.val (.int w_), .val (.int mo), .val (.int e_), .val (.int s_), .val (.int r_), .val (.int p_), .val (.int (own_A w_)), .val (.int (own_C r_)), .val (.double (own_bg r_)), .second, .val (.int (own_max (1 : Int32) (p_ &&& (2147483647 : Int32)))), .unset, .unset, .unset, .unset, .unset, .unset, .unset, .unset, .unset, .unset] [(.int (own_max (1 : Int32) (p_ &&& (2147483647 : Int32))))])) _
        refine XS.goto X38.here hx rfl (pc0 := 76) (pc' := 80) rfl (hb hby at_76) (by decide) (by decide) ?_
        show Steps p.tables e below (T34.setTop (mkF m 80 #[.val (.int w_), .val (.int mo), .val (.int e_), .val (.int s_), .val (.int r_), .val (.int p_), .val (.int (own_A w_)), .val (.int (own_C r_)), .val (.double (own_bg r_)), .second, .val (.int (own_max (1 : Int32) (p_ &&& (2147483647 : Int32)))), .unset, .unset, .unset, .unset, .unset, .unset, .unset, .unset, .unset, .unset] [(.int (own_max (1 : Int32) (p_ &&& (2147483647 : Int32))))])) _
        refine XS.istore X38.here hx rfl (hb hby at_80) rfl (l' := #[.val (.int w_), .val (.int mo), .val (.int e_), .val (.int s_), .val (.int r_), .val (.int p_), .val (.int (own_A w_)), .val (.int (own_C r_)), .val (.double (own_bg r_)), .second, .val (.int (own_max (1 : Int32) (p_ &&& (2147483647 : Int32)))), .val (.int (own_max (1 : Int32) (p_ &&& (2147483647 : Int32)))), .unset, .unset, .unset, .unset, .unset, .unset, .unset, .unset, .unset]) rfl ?_
        show Steps p.tables e below (T34.setTop (mkF m 82 #[.val (.int w_), .val (.int mo), .val (.int e_), .val (.int s_), .val (.int r_), .val (.int p_), .val (.int (own_A w_)), .val (.int (own_C r_)), .val (.double (own_bg r_)), .second, .val (.int (own_max (1 : Int32) (p_ &&& (2147483647 : Int32)))), .val (.int (own_max (1 : Int32) (p_ &&& (2147483647 : Int32)))), .unset, .unset, .unset, .unset, .unset, .unset, .unset, .unset, .unset] [])) _
        exact hh)
      obtain ⟨T98, h99, X100, e101, E102, A103, D104, U106, st105⟩ := newO X38 hx hZ hown (wT hw 3 rfl) (wT hw 4 rfl) (wT hw 5 rfl) e46 (g := (mkF m 82 #[.val (.int w_), .val (.int mo), .val (.int e_), .val (.int s_), .val (.int r_), .val (.int p_), .val (.int (own_A w_)), .val (.int (own_C r_)), .val (.double (own_bg r_)), .second, .val (.int (own_max (1 : Int32) (p_ &&& (2147483647 : Int32)))), .val (.int (own_max (1 : Int32) (p_ &&& (2147483647 : Int32)))), .unset, .unset, .unset, .unset, .unset, .unset, .unset, .unset, .unset] [])) rfl (hb hby at_82) (by decide) (by decide)
      obtain ⟨a107, g108⟩ : ∃ z, z = h0.size := ⟨_, rfl⟩
      rw [← g108] at A103 D104 U106 st105
      have G109 : n0 ≤ a107 := Nat.le_trans Z0 (Nat.le_of_eq g108.symm)
      have Z110 : n0 ≤ h99.size := Nat.le_trans Z0 E102.1
      have F111 : Fld Z h99 a107 "com/example/geirfa/geirfa/retrieval/Smoothing$JelinekMercer" "documentWeight" "D" (.double (0 : UInt64)) := D104 (Or.inr (wT hw 18 rfl)) (ty := .double) (by decide)
      have k20 : own_K p e below (T98.setTop (mkF m 85 #[.val (.int w_), .val (.int mo), .val (.int e_), .val (.int s_), .val (.int r_), .val (.int p_), .val (.int (own_A w_)), .val (.int (own_C r_)), .val (.double (own_bg r_)), .second, .val (.int (own_max (1 : Int32) (p_ &&& (2147483647 : Int32)))), .val (.int (own_max (1 : Int32) (p_ &&& (2147483647 : Int32)))), .unset, .unset, .unset, .unset, .unset, .unset, .unset, .unset, .unset] [(.ref a107)])) (s₁.setTop (entryFrame m #[(.int w_), (.int mo), (.int e_), (.int s_), (.int r_), (.int p_)] maxLocals)) := fun t hh => k19 t (st105 t hh)
      have k21 : own_K p e below (T98.setTop (mkF m 93 #[.val (.int w_), .val (.int mo), .val (.int e_), .val (.int s_), .val (.int r_), .val (.int p_), .val (.int (own_A w_)), .val (.int (own_C r_)), .val (.double (own_bg r_)), .second, .val (.int (own_max (1 : Int32) (p_ &&& (2147483647 : Int32)))), .val (.int (own_max (1 : Int32) (p_ &&& (2147483647 : Int32)))), .unset, .unset, .unset, .unset, .unset, .unset, .unset, .unset, .unset] [(.double (FP.ddiv (FP.i2d (own_A w_)) (4620693217682128896 : UInt64))), (.ref a107), (.ref a107)])) (s₁.setTop (entryFrame m #[(.int w_), (.int mo), (.int e_), (.int s_), (.int r_), (.int p_)] maxLocals)) := fun t hh => k20 t (by
        refine XS.dup X100.here hx rfl (hb hby at_85) rfl rfl ?_
        show Steps p.tables e below (T98.setTop (mkF m 86 #[.val (.int w_), .val (.int mo), .val (.int e_), .val (.int s_), .val (.int r_), .val (.int p_), .val (.int (own_A w_)), .val (.int (own_C r_)), .val (.double (own_bg r_)), .second, .val (.int (own_max (1 : Int32) (p_ &&& (2147483647 : Int32)))), .val (.int (own_max (1 : Int32) (p_ &&& (2147483647 : Int32)))), .unset, .unset, .unset, .unset, .unset, .unset, .unset, .unset, .unset] [(.ref a107), (.ref a107)])) _
        refine XS.iload X100.here hx rfl (hb hby at_86) rfl ?_
        show Steps p.tables e below (T98.setTop (mkF m 88 #[.val (.int w_), .val (.int mo), .val (.int e_), .val (.int s_), .val (.int r_), .val (.int p_), .val (.int (own_A w_)), .val (.int (own_C r_)), .val (.double (own_bg r_)), .second, .val (.int (own_max (1 : Int32) (p_ &&& (2147483647 : Int32)))), .val (.int (own_max (1 : Int32) (p_ &&& (2147483647 : Int32)))), .unset, .unset, .unset, .unset, .unset, .unset, .unset, .unset, .unset] [(.int (own_A w_)), (.ref a107), (.ref a107)])) _
        refine XS.i2dS X100.here hx rfl (hb hby at_88) rfl rfl ?_
        show Steps p.tables e below (T98.setTop (mkF m 89 #[.val (.int w_), .val (.int mo), .val (.int e_), .val (.int s_), .val (.int r_), .val (.int p_), .val (.int (own_A w_)), .val (.int (own_C r_)), .val (.double (own_bg r_)), .second, .val (.int (own_max (1 : Int32) (p_ &&& (2147483647 : Int32)))), .val (.int (own_max (1 : Int32) (p_ &&& (2147483647 : Int32)))), .unset, .unset, .unset, .unset, .unset, .unset, .unset, .unset, .unset] [(.double (FP.i2d (own_A w_))), (.ref a107), (.ref a107)])) _
        refine X100.ldc2DoubleC hx hown (mvT hZ (wT hw 2 rfl)) (g := (mkF m 89 #[.val (.int w_), .val (.int mo), .val (.int e_), .val (.int s_), .val (.int r_), .val (.int p_), .val (.int (own_A w_)), .val (.int (own_C r_)), .val (.double (own_bg r_)), .second, .val (.int (own_max (1 : Int32) (p_ &&& (2147483647 : Int32)))), .val (.int (own_max (1 : Int32) (p_ &&& (2147483647 : Int32)))), .unset, .unset, .unset, .unset, .unset, .unset, .unset, .unset, .unset] [(.double (FP.i2d (own_A w_))), (.ref a107), (.ref a107)])) rfl (hb hby at_89) _ ?_
        show Steps p.tables e below (T98.setTop (mkF m 92 #[.val (.int w_), .val (.int mo), .val (.int e_), .val (.int s_), .val (.int r_), .val (.int p_), .val (.int (own_A w_)), .val (.int (own_C r_)), .val (.double (own_bg r_)), .second, .val (.int (own_max (1 : Int32) (p_ &&& (2147483647 : Int32)))), .val (.int (own_max (1 : Int32) (p_ &&& (2147483647 : Int32)))), .unset, .unset, .unset, .unset, .unset, .unset, .unset, .unset, .unset] [(.double (4620693217682128896 : UInt64)), (.double (FP.i2d (own_A w_))), (.ref a107), (.ref a107)])) _
        refine XS.ddivS X100.here hx rfl (hb hby at_92) rfl (own_W_dy w_).no rfl ?_
        show Steps p.tables e below (T98.setTop (mkF m 93 #[.val (.int w_), .val (.int mo), .val (.int e_), .val (.int s_), .val (.int r_), .val (.int p_), .val (.int (own_A w_)), .val (.int (own_C r_)), .val (.double (own_bg r_)), .second, .val (.int (own_max (1 : Int32) (p_ &&& (2147483647 : Int32)))), .val (.int (own_max (1 : Int32) (p_ &&& (2147483647 : Int32)))), .unset, .unset, .unset, .unset, .unset, .unset, .unset, .unset, .unset] [(.double (FP.ddiv (FP.i2d (own_A w_)) (4620693217682128896 : UInt64))), (.ref a107), (.ref a107)])) _
        exact hh)
      have k22 : own_K p e below (T98.setTop (mkF m 93 #[.val (.int w_), .val (.int mo), .val (.int e_), .val (.int s_), .val (.int r_), .val (.int p_), .val (.int (own_A w_)), .val (.int (own_C r_)), .val (.double (own_bg r_)), .second, .val (.int (own_max (1 : Int32) (p_ &&& (2147483647 : Int32)))), .val (.int (own_max (1 : Int32) (p_ &&& (2147483647 : Int32)))), .unset, .unset, .unset, .unset, .unset, .unset, .unset, .unset, .unset] [(.double (own_W w_)), (.ref a107), (.ref a107)])) (s₁.setTop (entryFrame m #[(.int w_), (.int mo), (.int e_), (.int s_), (.int r_), (.int p_)] maxLocals)) := k21
      obtain ⟨_, _, ⟨T112, L113, k_114, n_115⟩, -, X116, ⟨Lc117, hQ118, l_119, y_120, z_121⟩, st122⟩ := X100.specialBack hx (y := (⟨"com/example/geirfa/geirfa/retrieval/Smoothing$JelinekMercer", "<init>", "(D)V"⟩ : MethodName)) rfl hown (mvT hZ (wT hw 6 rfl)) (mvT hZ (wT hw 7 rfl)) (mvT hZ (wT hw 8 rfl)) (by decide) (backOf (W := 1) (rmC l Z a0 hw [] a107 (own_W w_) h99 n0 Z110 F111 A103 G109 (own_W_gt w_) (own_W_lt w_)) hZ (wT hw 8 rfl) (wT hw 5 rfl) (by decide) (by decide)) (g := (mkF m 93 #[.val (.int w_), .val (.int mo), .val (.int e_), .val (.int s_), .val (.int r_), .val (.int p_), .val (.int (own_A w_)), .val (.int (own_C r_)), .val (.double (own_bg r_)), .second, .val (.int (own_max (1 : Int32) (p_ &&& (2147483647 : Int32)))), .val (.int (own_max (1 : Int32) (p_ &&& (2147483647 : Int32)))), .unset, .unset, .unset, .unset, .unset, .unset, .unset, .unset, .unset] [(.double (own_W w_)), (.ref a107), (.ref a107)])) rfl (by rw [hml]; rfl) (Steps.refl _) (a := a107) (argsL := [(.double (own_W w_))]) (rest := [(.ref a107)]) (lenOf own_h5 rfl) rfl (by show 2 * 0 + _ ≤ _; exact Nat.le_of_eq rfl) (hb hby at_93) (fun _ _ => ⟨rfl, e101, (by decide : 1 + 0 ≤ _), (by decide : 1 + 0 ≤ _)⟩)
      dsimp only [Pt.U, Pt.locs, Pt.cells, Pt.slots] at X116 l_119 y_120 z_121 st122 hQ118
      subst l_119 y_120 z_121
      obtain ⟨rfl, N123, K124, E125, F126⟩ := hQ118
      have N127 := Fr.app N47 N123
      have Z128 : n0 ≤ T112.heap.size := Nat.le_trans Z110 K124.1
      have k23 : own_K p e below (T112.setTop (mkF m 96 #[.val (.int w_), .val (.int mo), .val (.int e_), .val (.int s_), .val (.int r_), .val (.int p_), .val (.int (own_A w_)), .val (.int (own_C r_)), .val (.double (own_bg r_)), .second, .val (.int (own_max (1 : Int32) (p_ &&& (2147483647 : Int32)))), .val (.int (own_max (1 : Int32) (p_ &&& (2147483647 : Int32)))), .unset, .unset, .unset, .unset, .unset, .unset, .unset, .unset, .unset] [(.ref a107)])) (s₁.setTop (entryFrame m #[(.int w_), (.int mo), (.int e_), (.int s_), (.int r_), (.int p_)] maxLocals)) := fun t hh => k22 t (st122.trans hh)
      have k24 : own_K p e below (T112.setTop (mkF m 106 #[.val (.int w_), .val (.int mo), .val (.int e_), .val (.int s_), .val (.int r_), .val (.int p_), .val (.int (own_A w_)), .val (.int (own_C r_)), .val (.double (own_bg r_)), .second, .val (.int (own_max (1 : Int32) (p_ &&& (2147483647 : Int32)))), .val (.int (own_max (1 : Int32) (p_ &&& (2147483647 : Int32)))), .val (.ref a107), .unset, .unset, .unset, .unset, .unset, .unset, .unset, .unset] [(.double (own_bg r_)), (.int (own_max (1 : Int32) (p_ &&& (2147483647 : Int32)))), (.int (own_max (1 : Int32) (p_ &&& (2147483647 : Int32)))), (.ref a107)])) (s₁.setTop (entryFrame m #[(.int w_), (.int mo), (.int e_), (.int s_), (.int r_), (.int p_)] maxLocals)) := fun t hh => k23 t (by
        refine XS.astore X116.here hx rfl (hb hby at_96) rfl rfl (l' := #[.val (.int w_), .val (.int mo), .val (.int e_), .val (.int s_), .val (.int r_), .val (.int p_), .val (.int (own_A w_)), .val (.int (own_C r_)), .val (.double (own_bg r_)), .second, .val (.int (own_max (1 : Int32) (p_ &&& (2147483647 : Int32)))), .val (.int (own_max (1 : Int32) (p_ &&& (2147483647 : Int32)))), .val (.ref a107), .unset, .unset, .unset, .unset, .unset, .unset, .unset, .unset]) rfl ?_
        show Steps p.tables e below (T112.setTop (mkF m 98 #[.val (.int w_), .val (.int mo), .val (.int e_), .val (.int s_), .val (.int r_), .val (.int p_), .val (.int (own_A w_)), .val (.int (own_C r_)), .val (.double (own_bg r_)), .second, .val (.int (own_max (1 : Int32) (p_ &&& (2147483647 : Int32)))), .val (.int (own_max (1 : Int32) (p_ &&& (2147483647 : Int32)))), .val (.ref a107), .unset, .unset, .unset, .unset, .unset, .unset, .unset, .unset] [])) _
        refine XS.aload X116.here hx rfl (hb hby at_98) rfl rfl ?_
        show Steps p.tables e below (T112.setTop (mkF m 100 #[.val (.int w_), .val (.int mo), .val (.int e_), .val (.int s_), .val (.int r_), .val (.int p_), .val (.int (own_A w_)), .val (.int (own_C r_)), .val (.double (own_bg r_)), .second, .val (.int (own_max (1 : Int32) (p_ &&& (2147483647 : Int32)))), .val (.int (own_max (1 : Int32) (p_ &&& (2147483647 : Int32)))), .val (.ref a107), .unset, .unset, .unset, .unset, .unset, .unset, .unset, .unset] [(.ref a107)])) _
        refine XS.iload X116.here hx rfl (hb hby at_100) rfl ?_
        show Steps p.tables e below (T112.setTop (mkF m 102 #[.val (.int w_), .val (.int mo), .val (.int e_), .val (.int s_), .val (.int r_), .val (.int p_), .val (.int (own_A w_)), .val (.int (own_C r_)), .val (.double (own_bg r_)), .second, .val (.int (own_max (1 : Int32) (p_ &&& (2147483647 : Int32)))), .val (.int (own_max (1 : Int32) (p_ &&& (2147483647 : Int32)))), .val (.ref a107), .unset, .unset, .unset, .unset, .unset, .unset, .unset, .unset] [(.int (own_max (1 : Int32) (p_ &&& (2147483647 : Int32)))), (.ref a107)])) _
        refine XS.iload X116.here hx rfl (hb hby at_102) rfl ?_
        show Steps p.tables e below (T112.setTop (mkF m 104 #[.val (.int w_), .val (.int mo), .val (.int e_), .val (.int s_), .val (.int r_), .val (.int p_), .val (.int (own_A w_)), .val (.int (own_C r_)), .val (.double (own_bg r_)), .second, .val (.int (own_max (1 : Int32) (p_ &&& (2147483647 : Int32)))), .val (.int (own_max (1 : Int32) (p_ &&& (2147483647 : Int32)))), .val (.ref a107), .unset, .unset, .unset, .unset, .unset, .unset, .unset, .unset] [(.int (own_max (1 : Int32) (p_ &&& (2147483647 : Int32)))), (.int (own_max (1 : Int32) (p_ &&& (2147483647 : Int32)))), (.ref a107)])) _
        refine XS.dload X116.here hx rfl (hb hby at_104) rfl ?_
        show Steps p.tables e below (T112.setTop (mkF m 106 #[.val (.int w_), .val (.int mo), .val (.int e_), .val (.int s_), .val (.int r_), .val (.int p_), .val (.int (own_A w_)), .val (.int (own_C r_)), .val (.double (own_bg r_)), .second, .val (.int (own_max (1 : Int32) (p_ &&& (2147483647 : Int32)))), .val (.int (own_max (1 : Int32) (p_ &&& (2147483647 : Int32)))), .val (.ref a107), .unset, .unset, .unset, .unset, .unset, .unset, .unset, .unset] [(.double (own_bg r_)), (.int (own_max (1 : Int32) (p_ &&& (2147483647 : Int32)))), (.int (own_max (1 : Int32) (p_ &&& (2147483647 : Int32)))), (.ref a107)])) _
        exact hh)
      obtain ⟨cq140, kq141, qa142, qb143, qc144⟩ := isOf hZ rfl E125
      obtain ⟨_, _, ⟨T129, L130, k_131, n_132⟩, -, X133, ⟨Lc134, hQ135, l_136, y_137, z_138⟩, st139⟩ := X116.virtualBack hx (y := (⟨"com/example/geirfa/geirfa/retrieval/Smoothing$JelinekMercer", "probability", "(IID)D"⟩ : MethodName)) (z := (⟨"com/example/geirfa/geirfa/retrieval/Smoothing$JelinekMercer", "probability", "(IID)D"⟩ : MethodName)) hown (mvT hZ (wT hw 19 rfl)) (mvT hZ (wT hw 20 rfl)) (notFace_of_selects (args := #[]) (mvT hZ (wT hw 22 rfl))) (mvT hZ (wT hw 22 rfl)) (mvT hZ (wT hw 21 rfl)) (by decide) (backOf (W := 0) (rmB l Z a0 hw [] a107 (own_max (1 : Int32) (p_ &&& (2147483647 : Int32))) (own_max (1 : Int32) (p_ &&& (2147483647 : Int32))) (own_bg r_) (own_W w_) T112.heap n0 Z128 F126 (own_no1 _ _ _ _ (own_ok2 w_ r_ (p_ &&& (2147483647 : Int32)))) (own_no2 _ _ _ _ (own_ok2 w_ r_ (p_ &&& (2147483647 : Int32)))) (own_no3 _ _ _ _ (own_ok2 w_ r_ (p_ &&& (2147483647 : Int32))))) hZ (wT hw 23 rfl) (wT hw 5 rfl) (by decide) (by decide)) qa142 qc144 (g := (mkF m 106 #[.val (.int w_), .val (.int mo), .val (.int e_), .val (.int s_), .val (.int r_), .val (.int p_), .val (.int (own_A w_)), .val (.int (own_C r_)), .val (.double (own_bg r_)), .second, .val (.int (own_max (1 : Int32) (p_ &&& (2147483647 : Int32)))), .val (.int (own_max (1 : Int32) (p_ &&& (2147483647 : Int32)))), .val (.ref a107), .unset, .unset, .unset, .unset, .unset, .unset, .unset, .unset] [(.double (own_bg r_)), (.int (own_max (1 : Int32) (p_ &&& (2147483647 : Int32)))), (.int (own_max (1 : Int32) (p_ &&& (2147483647 : Int32)))), (.ref a107)])) rfl (by rw [hml]; rfl) (Steps.refl _) (argsL := [(.int (own_max (1 : Int32) (p_ &&& (2147483647 : Int32)))), (.int (own_max (1 : Int32) (p_ &&& (2147483647 : Int32)))), (.double (own_bg r_))]) (rest := []) (lenOf own_h7 rfl) rfl (by show 2 * 0 + _ ≤ _; exact Nat.le_of_eq rfl) (hb hby at_106) (fun _ _ => ⟨rfl, rfl, (by decide : 1 + 0 ≤ _), (by decide : 1 + 0 ≤ _)⟩)
      dsimp only [Pt.U, Pt.locs, Pt.cells, Pt.slots] at X133 l_136 y_137 z_138 st139 hQ135
      subst l_136 y_137 z_138
      obtain ⟨rfl, N145, e146⟩ := hQ135
      have N147 := Fr.app N127 N145
      have k25 : own_K p e below (T129.setTop (mkF m 109 #[.val (.int w_), .val (.int mo), .val (.int e_), .val (.int s_), .val (.int r_), .val (.int p_), .val (.int (own_A w_)), .val (.int (own_C r_)), .val (.double (own_bg r_)), .second, .val (.int (own_max (1 : Int32) (p_ &&& (2147483647 : Int32)))), .val (.int (own_max (1 : Int32) (p_ &&& (2147483647 : Int32)))), .val (.ref a107), .unset, .unset, .unset, .unset, .unset, .unset, .unset, .unset] [(.double (FP.dadd (FP.ddiv (FP.dmul (own_W w_) (FP.i2d (own_max (1 : Int32) (p_ &&& (2147483647 : Int32))))) (FP.i2d (own_max (1 : Int32) (p_ &&& (2147483647 : Int32))))) (own_bg r_)))])) (s₁.setTop (entryFrame m #[(.int w_), (.int mo), (.int e_), (.int s_), (.int r_), (.int p_)] maxLocals)) := fun t hh => k24 t (st139.trans hh)
      have k26 : own_K p e below (T129.setTop (mkF m 159 #[.val (.int w_), .val (.int mo), .val (.int e_), .val (.int s_), .val (.int r_), .val (.int p_), .val (.int (own_A w_)), .val (.int (own_C r_)), .val (.double (own_bg r_)), .second, .val (.int (own_max (1 : Int32) (p_ &&& (2147483647 : Int32)))), .val (.int (own_max (1 : Int32) (p_ &&& (2147483647 : Int32)))), .val (.ref a107), .val (.double (FP.dadd (FP.ddiv (FP.dmul (own_W w_) (FP.i2d (own_max (1 : Int32) (p_ &&& (2147483647 : Int32))))) (FP.i2d (own_max (1 : Int32) (p_ &&& (2147483647 : Int32))))) (own_bg r_))), .second, .val (.long ((((own_A w_).toInt64) * ((own_max (1 : Int32) (p_ &&& (2147483647 : Int32))).toInt64)) + (((own_C r_).toInt64) * ((own_max (1 : Int32) (p_ &&& (2147483647 : Int32))).toInt64)))), .second, .val (.long ((8 : Int64) * ((own_max (1 : Int32) (p_ &&& (2147483647 : Int32))).toInt64))), .second, .val (.double (FP.ddiv (FP.l2d ((((own_A w_).toInt64) * ((own_max (1 : Int32) (p_ &&& (2147483647 : Int32))).toInt64)) + (((own_C r_).toInt64) * ((own_max (1 : Int32) (p_ &&& (2147483647 : Int32))).toInt64)))) (FP.l2d ((8 : Int64) * ((own_max (1 : Int32) (p_ &&& (2147483647 : Int32))).toInt64))))), .second] [(.int (1 : Int32))])) (s₁.setTop (entryFrame m #[(.int w_), (.int mo), (.int e_), (.int s_), (.int r_), (.int p_)] maxLocals)) := fun t hh => k25 t (by
        refine XS.dstore X133.here hx rfl (hb hby at_109) rfl (l' := #[.val (.int w_), .val (.int mo), .val (.int e_), .val (.int s_), .val (.int r_), .val (.int p_), .val (.int (own_A w_)), .val (.int (own_C r_)), .val (.double (own_bg r_)), .second, .val (.int (own_max (1 : Int32) (p_ &&& (2147483647 : Int32)))), .val (.int (own_max (1 : Int32) (p_ &&& (2147483647 : Int32)))), .val (.ref a107), .val (.double (FP.dadd (FP.ddiv (FP.dmul (own_W w_) (FP.i2d (own_max (1 : Int32) (p_ &&& (2147483647 : Int32))))) (FP.i2d (own_max (1 : Int32) (p_ &&& (2147483647 : Int32))))) (own_bg r_))), .second, .unset, .unset, .unset, .unset, .unset, .unset]) rfl ?_
        show Steps p.tables e below (T129.setTop (mkF m 111 #[.val (.int w_), .val (.int mo), .val (.int e_), .val (.int s_), .val (.int r_), .val (.int p_), .val (.int (own_A w_)), .val (.int (own_C r_)), .val (.double (own_bg r_)), .second, .val (.int (own_max (1 : Int32) (p_ &&& (2147483647 : Int32)))), .val (.int (own_max (1 : Int32) (p_ &&& (2147483647 : Int32)))), .val (.ref a107), .val (.double (FP.dadd (FP.ddiv (FP.dmul (own_W w_) (FP.i2d (own_max (1 : Int32) (p_ &&& (2147483647 : Int32))))) (FP.i2d (own_max (1 : Int32) (p_ &&& (2147483647 : Int32))))) (own_bg r_))), .second, .unset, .unset, .unset, .unset, .unset, .unset] [])) _
        refine XS.iload X133.here hx rfl (hb hby at_111) rfl ?_
        show Steps p.tables e below (T129.setTop (mkF m 113 #[.val (.int w_), .val (.int mo), .val (.int e_), .val (.int s_), .val (.int r_), .val (.int p_), .val (.int (own_A w_)), .val (.int (own_C r_)), .val (.double (own_bg r_)), .second, .val (.int (own_max (1 : Int32) (p_ &&& (2147483647 : Int32)))), .val (.int (own_max (1 : Int32) (p_ &&& (2147483647 : Int32)))), .val (.ref a107), .val (.double (FP.dadd (FP.ddiv (FP.dmul (own_W w_) (FP.i2d (own_max (1 : Int32) (p_ &&& (2147483647 : Int32))))) (FP.i2d (own_max (1 : Int32) (p_ &&& (2147483647 : Int32))))) (own_bg r_))), .second, .unset, .unset, .unset, .unset, .unset, .unset] [(.int (own_A w_))])) _
        refine XS.i2l X133.here hx rfl (hb hby at_113) rfl ?_
        show Steps p.tables e below (T129.setTop (mkF m 114 #[.val (.int w_), .val (.int mo), .val (.int e_), .val (.int s_), .val (.int r_), .val (.int p_), .val (.int (own_A w_)), .val (.int (own_C r_)), .val (.double (own_bg r_)), .second, .val (.int (own_max (1 : Int32) (p_ &&& (2147483647 : Int32)))), .val (.int (own_max (1 : Int32) (p_ &&& (2147483647 : Int32)))), .val (.ref a107), .val (.double (FP.dadd (FP.ddiv (FP.dmul (own_W w_) (FP.i2d (own_max (1 : Int32) (p_ &&& (2147483647 : Int32))))) (FP.i2d (own_max (1 : Int32) (p_ &&& (2147483647 : Int32))))) (own_bg r_))), .second, .unset, .unset, .unset, .unset, .unset, .unset] [(.long ((own_A w_).toInt64))])) _
        refine XS.iload X133.here hx rfl (hb hby at_114) rfl ?_
        show Steps p.tables e below (T129.setTop (mkF m 116 #[.val (.int w_), .val (.int mo), .val (.int e_), .val (.int s_), .val (.int r_), .val (.int p_), .val (.int (own_A w_)), .val (.int (own_C r_)), .val (.double (own_bg r_)), .second, .val (.int (own_max (1 : Int32) (p_ &&& (2147483647 : Int32)))), .val (.int (own_max (1 : Int32) (p_ &&& (2147483647 : Int32)))), .val (.ref a107), .val (.double (FP.dadd (FP.ddiv (FP.dmul (own_W w_) (FP.i2d (own_max (1 : Int32) (p_ &&& (2147483647 : Int32))))) (FP.i2d (own_max (1 : Int32) (p_ &&& (2147483647 : Int32))))) (own_bg r_))), .second, .unset, .unset, .unset, .unset, .unset, .unset] [(.int (own_max (1 : Int32) (p_ &&& (2147483647 : Int32)))), (.long ((own_A w_).toInt64))])) _
        refine XS.i2l X133.here hx rfl (hb hby at_116) rfl ?_
        show Steps p.tables e below (T129.setTop (mkF m 117 #[.val (.int w_), .val (.int mo), .val (.int e_), .val (.int s_), .val (.int r_), .val (.int p_), .val (.int (own_A w_)), .val (.int (own_C r_)), .val (.double (own_bg r_)), .second, .val (.int (own_max (1 : Int32) (p_ &&& (2147483647 : Int32)))), .val (.int (own_max (1 : Int32) (p_ &&& (2147483647 : Int32)))), .val (.ref a107), .val (.double (FP.dadd (FP.ddiv (FP.dmul (own_W w_) (FP.i2d (own_max (1 : Int32) (p_ &&& (2147483647 : Int32))))) (FP.i2d (own_max (1 : Int32) (p_ &&& (2147483647 : Int32))))) (own_bg r_))), .second, .unset, .unset, .unset, .unset, .unset, .unset] [(.long ((own_max (1 : Int32) (p_ &&& (2147483647 : Int32))).toInt64)), (.long ((own_A w_).toInt64))])) _
        refine XS.lmul X133.here hx rfl (hb hby at_117) rfl ?_
        show Steps p.tables e below (T129.setTop (mkF m 118 #[.val (.int w_), .val (.int mo), .val (.int e_), .val (.int s_), .val (.int r_), .val (.int p_), .val (.int (own_A w_)), .val (.int (own_C r_)), .val (.double (own_bg r_)), .second, .val (.int (own_max (1 : Int32) (p_ &&& (2147483647 : Int32)))), .val (.int (own_max (1 : Int32) (p_ &&& (2147483647 : Int32)))), .val (.ref a107), .val (.double (FP.dadd (FP.ddiv (FP.dmul (own_W w_) (FP.i2d (own_max (1 : Int32) (p_ &&& (2147483647 : Int32))))) (FP.i2d (own_max (1 : Int32) (p_ &&& (2147483647 : Int32))))) (own_bg r_))), .second, .unset, .unset, .unset, .unset, .unset, .unset] [(.long (((own_A w_).toInt64) * ((own_max (1 : Int32) (p_ &&& (2147483647 : Int32))).toInt64)))])) _
        refine XS.iload X133.here hx rfl (hb hby at_118) rfl ?_
        show Steps p.tables e below (T129.setTop (mkF m 120 #[.val (.int w_), .val (.int mo), .val (.int e_), .val (.int s_), .val (.int r_), .val (.int p_), .val (.int (own_A w_)), .val (.int (own_C r_)), .val (.double (own_bg r_)), .second, .val (.int (own_max (1 : Int32) (p_ &&& (2147483647 : Int32)))), .val (.int (own_max (1 : Int32) (p_ &&& (2147483647 : Int32)))), .val (.ref a107), .val (.double (FP.dadd (FP.ddiv (FP.dmul (own_W w_) (FP.i2d (own_max (1 : Int32) (p_ &&& (2147483647 : Int32))))) (FP.i2d (own_max (1 : Int32) (p_ &&& (2147483647 : Int32))))) (own_bg r_))), .second, .unset, .unset, .unset, .unset, .unset, .unset] [(.int (own_C r_)), (.long (((own_A w_).toInt64) * ((own_max (1 : Int32) (p_ &&& (2147483647 : Int32))).toInt64)))])) _
        refine XS.i2l X133.here hx rfl (hb hby at_120) rfl ?_
        show Steps p.tables e below (T129.setTop (mkF m 121 #[.val (.int w_), .val (.int mo), .val (.int e_), .val (.int s_), .val (.int r_), .val (.int p_), .val (.int (own_A w_)), .val (.int (own_C r_)), .val (.double (own_bg r_)), .second, .val (.int (own_max (1 : Int32) (p_ &&& (2147483647 : Int32)))), .val (.int (own_max (1 : Int32) (p_ &&& (2147483647 : Int32)))), .val (.ref a107), .val (.double (FP.dadd (FP.ddiv (FP.dmul (own_W w_) (FP.i2d (own_max (1 : Int32) (p_ &&& (2147483647 : Int32))))) (FP.i2d (own_max (1 : Int32) (p_ &&& (2147483647 : Int32))))) (own_bg r_))), .second, .unset, .unset, .unset, .unset, .unset, .unset] [(.long ((own_C r_).toInt64)), (.long (((own_A w_).toInt64) * ((own_max (1 : Int32) (p_ &&& (2147483647 : Int32))).toInt64)))])) _
        refine XS.iload X133.here hx rfl (hb hby at_121) rfl ?_
        show Steps p.tables e below (T129.setTop (mkF m 123 #[.val (.int w_), .val (.int mo), .val (.int e_), .val (.int s_), .val (.int r_), .val (.int p_), .val (.int (own_A w_)), .val (.int (own_C r_)), .val (.double (own_bg r_)), .second, .val (.int (own_max (1 : Int32) (p_ &&& (2147483647 : Int32)))), .val (.int (own_max (1 : Int32) (p_ &&& (2147483647 : Int32)))), .val (.ref a107), .val (.double (FP.dadd (FP.ddiv (FP.dmul (own_W w_) (FP.i2d (own_max (1 : Int32) (p_ &&& (2147483647 : Int32))))) (FP.i2d (own_max (1 : Int32) (p_ &&& (2147483647 : Int32))))) (own_bg r_))), .second, .unset, .unset, .unset, .unset, .unset, .unset] [(.int (own_max (1 : Int32) (p_ &&& (2147483647 : Int32)))), (.long ((own_C r_).toInt64)), (.long (((own_A w_).toInt64) * ((own_max (1 : Int32) (p_ &&& (2147483647 : Int32))).toInt64)))])) _
        refine XS.i2l X133.here hx rfl (hb hby at_123) rfl ?_
        show Steps p.tables e below (T129.setTop (mkF m 124 #[.val (.int w_), .val (.int mo), .val (.int e_), .val (.int s_), .val (.int r_), .val (.int p_), .val (.int (own_A w_)), .val (.int (own_C r_)), .val (.double (own_bg r_)), .second, .val (.int (own_max (1 : Int32) (p_ &&& (2147483647 : Int32)))), .val (.int (own_max (1 : Int32) (p_ &&& (2147483647 : Int32)))), .val (.ref a107), .val (.double (FP.dadd (FP.ddiv (FP.dmul (own_W w_) (FP.i2d (own_max (1 : Int32) (p_ &&& (2147483647 : Int32))))) (FP.i2d (own_max (1 : Int32) (p_ &&& (2147483647 : Int32))))) (own_bg r_))), .second, .unset, .unset, .unset, .unset, .unset, .unset] [(.long ((own_max (1 : Int32) (p_ &&& (2147483647 : Int32))).toInt64)), (.long ((own_C r_).toInt64)), (.long (((own_A w_).toInt64) * ((own_max (1 : Int32) (p_ &&& (2147483647 : Int32))).toInt64)))])) _
        refine XS.lmul X133.here hx rfl (hb hby at_124) rfl ?_
        show Steps p.tables e below (T129.setTop (mkF m 125 #[.val (.int w_), .val (.int mo), .val (.int e_), .val (.int s_), .val (.int r_), .val (.int p_), .val (.int (own_A w_)), .val (.int (own_C r_)), .val (.double (own_bg r_)), .second, .val (.int (own_max (1 : Int32) (p_ &&& (2147483647 : Int32)))), .val (.int (own_max (1 : Int32) (p_ &&& (2147483647 : Int32)))), .val (.ref a107), .val (.double (FP.dadd (FP.ddiv (FP.dmul (own_W w_) (FP.i2d (own_max (1 : Int32) (p_ &&& (2147483647 : Int32))))) (FP.i2d (own_max (1 : Int32) (p_ &&& (2147483647 : Int32))))) (own_bg r_))), .second, .unset, .unset, .unset, .unset, .unset, .unset] [(.long (((own_C r_).toInt64) * ((own_max (1 : Int32) (p_ &&& (2147483647 : Int32))).toInt64))), (.long (((own_A w_).toInt64) * ((own_max (1 : Int32) (p_ &&& (2147483647 : Int32))).toInt64)))])) _
        refine XS.ladd X133.here hx rfl (hb hby at_125) rfl ?_
        show Steps p.tables e below (T129.setTop (mkF m 126 #[.val (.int w_), .val (.int mo), .val (.int e_), .val (.int s_), .val (.int r_), .val (.int p_), .val (.int (own_A w_)), .val (.int (own_C r_)), .val (.double (own_bg r_)), .second, .val (.int (own_max (1 : Int32) (p_ &&& (2147483647 : Int32)))), .val (.int (own_max (1 : Int32) (p_ &&& (2147483647 : Int32)))), .val (.ref a107), .val (.double (FP.dadd (FP.ddiv (FP.dmul (own_W w_) (FP.i2d (own_max (1 : Int32) (p_ &&& (2147483647 : Int32))))) (FP.i2d (own_max (1 : Int32) (p_ &&& (2147483647 : Int32))))) (own_bg r_))), .second, .unset, .unset, .unset, .unset, .unset, .unset] [(.long ((((own_A w_).toInt64) * ((own_max (1 : Int32) (p_ &&& (2147483647 : Int32))).toInt64)) + (((own_C r_).toInt64) * ((own_max (1 : Int32) (p_ &&& (2147483647 : Int32))).toInt64))))])) _
        refine XS.lstore X133.here hx rfl (hb hby at_126) rfl (l' := #[.val (.int w_), .val (.int mo), .val (.int e_), .val (.int s_), .val (.int r_), .val (.int p_), .val (.int (own_A w_)), .val (.int (own_C r_)), .val (.double (own_bg r_)), .second, .val (.int (own_max (1 : Int32) (p_ &&& (2147483647 : Int32)))), .val (.int (own_max (1 : Int32) (p_ &&& (2147483647 : Int32)))), .val (.ref a107), .val (.double (FP.dadd (FP.ddiv (FP.dmul (own_W w_) (FP.i2d (own_max (1 : Int32) (p_ &&& (2147483647 : Int32))))) (FP.i2d (own_max (1 : Int32) (p_ &&& (2147483647 : Int32))))) (own_bg r_))), .second, .val (.long ((((own_A w_).toInt64) * ((own_max (1 : Int32) (p_ &&& (2147483647 : Int32))).toInt64)) + (((own_C r_).toInt64) * ((own_max (1 : Int32) (p_ &&& (2147483647 : Int32))).toInt64)))), .second, .unset, .unset, .unset, .unset]) rfl ?_
        show Steps p.tables e below (T129.setTop (mkF m 128 #[.val (.int w_), .val (.int mo), .val (.int e_), .val (.int s_), .val (.int r_), .val (.int p_), .val (.int (own_A w_)), .val (.int (own_C r_)), .val (.double (own_bg r_)), .second, .val (.int (own_max (1 : Int32) (p_ &&& (2147483647 : Int32)))), .val (.int (own_max (1 : Int32) (p_ &&& (2147483647 : Int32)))), .val (.ref a107), .val (.double (FP.dadd (FP.ddiv (FP.dmul (own_W w_) (FP.i2d (own_max (1 : Int32) (p_ &&& (2147483647 : Int32))))) (FP.i2d (own_max (1 : Int32) (p_ &&& (2147483647 : Int32))))) (own_bg r_))), .second, .val (.long ((((own_A w_).toInt64) * ((own_max (1 : Int32) (p_ &&& (2147483647 : Int32))).toInt64)) + (((own_C r_).toInt64) * ((own_max (1 : Int32) (p_ &&& (2147483647 : Int32))).toInt64)))), .second, .unset, .unset, .unset, .unset] [])) _
        refine X133.ldc2Long hx hown (mvT hZ (wT hw 24 rfl)) (g := (mkF m 128 #[.val (.int w_), .val (.int mo), .val (.int e_), .val (.int s_), .val (.int r_), .val (.int p_), .val (.int (own_A w_)), .val (.int (own_C r_)), .val (.double (own_bg r_)), .second, .val (.int (own_max (1 : Int32) (p_ &&& (2147483647 : Int32)))), .val (.int (own_max (1 : Int32) (p_ &&& (2147483647 : Int32)))), .val (.ref a107), .val (.double (FP.dadd (FP.ddiv (FP.dmul (own_W w_) (FP.i2d (own_max (1 : Int32) (p_ &&& (2147483647 : Int32))))) (FP.i2d (own_max (1 : Int32) (p_ &&& (2147483647 : Int32))))) (own_bg r_))), .second, .val (.long ((((own_A w_).toInt64) * ((own_max (1 : Int32) (p_ &&& (2147483647 : Int32))).toInt64)) + (((own_C r_).toInt64) * ((own_max (1 : Int32) (p_ &&& (2147483647 : Int32))).toInt64)))), .second, .unset, .unset, .unset, .unset] [])) rfl (hb hby at_128) _ ?_
        show Steps p.tables e below (T129.setTop (mkF m 131 #[.val (.int w_), .val (.int mo), .val (.int e_), .val (.int s_), .val (.int r_), .val (.int p_), .val (.int (own_A w_)), .val (.int (own_C r_)), .val (.double (own_bg r_)), .second, .val (.int (own_max (1 : Int32) (p_ &&& (2147483647 : Int32)))), .val (.int (own_max (1 : Int32) (p_ &&& (2147483647 : Int32)))), .val (.ref a107), .val (.double (FP.dadd (FP.ddiv (FP.dmul (own_W w_) (FP.i2d (own_max (1 : Int32) (p_ &&& (2147483647 : Int32))))) (FP.i2d (own_max (1 : Int32) (p_ &&& (2147483647 : Int32))))) (own_bg r_))), .second, .val (.long ((((own_A w_).toInt64) * ((own_max (1 : Int32) (p_ &&& (2147483647 : Int32))).toInt64)) + (((own_C r_).toInt64) * ((own_max (1 : Int32) (p_ &&& (2147483647 : Int32))).toInt64)))), .second, .unset, .unset, .unset, .unset] [(.long (8 : Int64))])) _
        refine XS.iload X133.here hx rfl (hb hby at_131) rfl ?_
        show Steps p.tables e below (T129.setTop (mkF m 133 #[.val (.int w_), .val (.int mo), .val (.int e_), .val (.int s_), .val (.int r_), .val (.int p_), .val (.int (own_A w_)), .val (.int (own_C r_)), .val (.double (own_bg r_)), .second, .val (.int (own_max (1 : Int32) (p_ &&& (2147483647 : Int32)))), .val (.int (own_max (1 : Int32) (p_ &&& (2147483647 : Int32)))), .val (.ref a107), .val (.double (FP.dadd (FP.ddiv (FP.dmul (own_W w_) (FP.i2d (own_max (1 : Int32) (p_ &&& (2147483647 : Int32))))) (FP.i2d (own_max (1 : Int32) (p_ &&& (2147483647 : Int32))))) (own_bg r_))), .second, .val (.long ((((own_A w_).toInt64) * ((own_max (1 : Int32) (p_ &&& (2147483647 : Int32))).toInt64)) + (((own_C r_).toInt64) * ((own_max (1 : Int32) (p_ &&& (2147483647 : Int32))).toInt64)))), .second, .unset, .unset, .unset, .unset] [(.int (own_max (1 : Int32) (p_ &&& (2147483647 : Int32)))), (.long (8 : Int64))])) _
        refine XS.i2l X133.here hx rfl (hb hby at_133) rfl ?_
        show Steps p.tables e below (T129.setTop (mkF m 134 #[.val (.int w_), .val (.int mo), .val (.int e_), .val (.int s_), .val (.int r_), .val (.int p_), .val (.int (own_A w_)), .val (.int (own_C r_)), .val (.double (own_bg r_)), .second, .val (.int (own_max (1 : Int32) (p_ &&& (2147483647 : Int32)))), .val (.int (own_max (1 : Int32) (p_ &&& (2147483647 : Int32)))), .val (.ref a107), .val (.double (FP.dadd (FP.ddiv (FP.dmul (own_W w_) (FP.i2d (own_max (1 : Int32) (p_ &&& (2147483647 : Int32))))) (FP.i2d (own_max (1 : Int32) (p_ &&& (2147483647 : Int32))))) (own_bg r_))), .second, .val (.long ((((own_A w_).toInt64) * ((own_max (1 : Int32) (p_ &&& (2147483647 : Int32))).toInt64)) + (((own_C r_).toInt64) * ((own_max (1 : Int32) (p_ &&& (2147483647 : Int32))).toInt64)))), .second, .unset, .unset, .unset, .unset] [(.long ((own_max (1 : Int32) (p_ &&& (2147483647 : Int32))).toInt64)), (.long (8 : Int64))])) _
        refine XS.lmul X133.here hx rfl (hb hby at_134) rfl ?_
        show Steps p.tables e below (T129.setTop (mkF m 135 #[.val (.int w_), .val (.int mo), .val (.int e_), .val (.int s_), .val (.int r_), .val (.int p_), .val (.int (own_A w_)), .val (.int (own_C r_)), .val (.double (own_bg r_)), .second, .val (.int (own_max (1 : Int32) (p_ &&& (2147483647 : Int32)))), .val (.int (own_max (1 : Int32) (p_ &&& (2147483647 : Int32)))), .val (.ref a107), .val (.double (FP.dadd (FP.ddiv (FP.dmul (own_W w_) (FP.i2d (own_max (1 : Int32) (p_ &&& (2147483647 : Int32))))) (FP.i2d (own_max (1 : Int32) (p_ &&& (2147483647 : Int32))))) (own_bg r_))), .second, .val (.long ((((own_A w_).toInt64) * ((own_max (1 : Int32) (p_ &&& (2147483647 : Int32))).toInt64)) + (((own_C r_).toInt64) * ((own_max (1 : Int32) (p_ &&& (2147483647 : Int32))).toInt64)))), .second, .unset, .unset, .unset, .unset] [(.long ((8 : Int64) * ((own_max (1 : Int32) (p_ &&& (2147483647 : Int32))).toInt64)))])) _
        refine XS.lstore X133.here hx rfl (hb hby at_135) rfl (l' := #[.val (.int w_), .val (.int mo), .val (.int e_), .val (.int s_), .val (.int r_), .val (.int p_), .val (.int (own_A w_)), .val (.int (own_C r_)), .val (.double (own_bg r_)), .second, .val (.int (own_max (1 : Int32) (p_ &&& (2147483647 : Int32)))), .val (.int (own_max (1 : Int32) (p_ &&& (2147483647 : Int32)))), .val (.ref a107), .val (.double (FP.dadd (FP.ddiv (FP.dmul (own_W w_) (FP.i2d (own_max (1 : Int32) (p_ &&& (2147483647 : Int32))))) (FP.i2d (own_max (1 : Int32) (p_ &&& (2147483647 : Int32))))) (own_bg r_))), .second, .val (.long ((((own_A w_).toInt64) * ((own_max (1 : Int32) (p_ &&& (2147483647 : Int32))).toInt64)) + (((own_C r_).toInt64) * ((own_max (1 : Int32) (p_ &&& (2147483647 : Int32))).toInt64)))), .second, .val (.long ((8 : Int64) * ((own_max (1 : Int32) (p_ &&& (2147483647 : Int32))).toInt64))), .second, .unset, .unset]) rfl ?_
        show Steps p.tables e below (T129.setTop (mkF m 137 #[.val (.int w_), .val (.int mo), .val (.int e_), .val (.int s_), .val (.int r_), .val (.int p_), .val (.int (own_A w_)), .val (.int (own_C r_)), .val (.double (own_bg r_)), .second, .val (.int (own_max (1 : Int32) (p_ &&& (2147483647 : Int32)))), .val (.int (own_max (1 : Int32) (p_ &&& (2147483647 : Int32)))), .val (.ref a107), .val (.double (FP.dadd (FP.ddiv (FP.dmul (own_W w_) (FP.i2d (own_max (1 : Int32) (p_ &&& (2147483647 : Int32))))) (FP.i2d (own_max (1 : Int32) (p_ &&& (2147483647 : Int32))))) (own_bg r_))), .second, .val (.long ((((own_A w_).toInt64) * ((own_max (1 : Int32) (p_ &&& (2147483647 : Int32))).toInt64)) + (((own_C r_).toInt64) * ((own_max (1 : Int32) (p_ &&& (2147483647 : Int32))).toInt64)))), .second, .val (.long ((8 : Int64) * ((own_max (1 : Int32) (p_ &&& (2147483647 : Int32))).toInt64))), .second, .unset, .unset] [])) _
        refine XS.lload X133.here hx rfl (hb hby at_137) rfl ?_
        show Steps p.tables e below (T129.setTop (mkF m 139 #[.val (.int w_), .val (.int mo), .val (.int e_), .val (.int s_), .val (.int r_), .val (.int p_), .val (.int (own_A w_)), .val (.int (own_C r_)), .val (.double (own_bg r_)), .second, .val (.int (own_max (1 : Int32) (p_ &&& (2147483647 : Int32)))), .val (.int (own_max (1 : Int32) (p_ &&& (2147483647 : Int32)))), .val (.ref a107), .val (.double (FP.dadd (FP.ddiv (FP.dmul (own_W w_) (FP.i2d (own_max (1 : Int32) (p_ &&& (2147483647 : Int32))))) (FP.i2d (own_max (1 : Int32) (p_ &&& (2147483647 : Int32))))) (own_bg r_))), .second, .val (.long ((((own_A w_).toInt64) * ((own_max (1 : Int32) (p_ &&& (2147483647 : Int32))).toInt64)) + (((own_C r_).toInt64) * ((own_max (1 : Int32) (p_ &&& (2147483647 : Int32))).toInt64)))), .second, .val (.long ((8 : Int64) * ((own_max (1 : Int32) (p_ &&& (2147483647 : Int32))).toInt64))), .second, .unset, .unset] [(.long ((((own_A w_).toInt64) * ((own_max (1 : Int32) (p_ &&& (2147483647 : Int32))).toInt64)) + (((own_C r_).toInt64) * ((own_max (1 : Int32) (p_ &&& (2147483647 : Int32))).toInt64))))])) _
        refine XS.l2dS X133.here hx rfl (hb hby at_139) rfl rfl ?_
        show Steps p.tables e below (T129.setTop (mkF m 140 #[.val (.int w_), .val (.int mo), .val (.int e_), .val (.int s_), .val (.int r_), .val (.int p_), .val (.int (own_A w_)), .val (.int (own_C r_)), .val (.double (own_bg r_)), .second, .val (.int (own_max (1 : Int32) (p_ &&& (2147483647 : Int32)))), .val (.int (own_max (1 : Int32) (p_ &&& (2147483647 : Int32)))), .val (.ref a107), .val (.double (FP.dadd (FP.ddiv (FP.dmul (own_W w_) (FP.i2d (own_max (1 : Int32) (p_ &&& (2147483647 : Int32))))) (FP.i2d (own_max (1 : Int32) (p_ &&& (2147483647 : Int32))))) (own_bg r_))), .second, .val (.long ((((own_A w_).toInt64) * ((own_max (1 : Int32) (p_ &&& (2147483647 : Int32))).toInt64)) + (((own_C r_).toInt64) * ((own_max (1 : Int32) (p_ &&& (2147483647 : Int32))).toInt64)))), .second, .val (.long ((8 : Int64) * ((own_max (1 : Int32) (p_ &&& (2147483647 : Int32))).toInt64))), .second, .unset, .unset] [(.double (FP.l2d ((((own_A w_).toInt64) * ((own_max (1 : Int32) (p_ &&& (2147483647 : Int32))).toInt64)) + (((own_C r_).toInt64) * ((own_max (1 : Int32) (p_ &&& (2147483647 : Int32))).toInt64)))))])) _
        refine XS.lload X133.here hx rfl (hb hby at_140) rfl ?_
        show Steps p.tables e below (T129.setTop (mkF m 142 #[.val (.int w_), .val (.int mo), .val (.int e_), .val (.int s_), .val (.int r_), .val (.int p_), .val (.int (own_A w_)), .val (.int (own_C r_)), .val (.double (own_bg r_)), .second, .val (.int (own_max (1 : Int32) (p_ &&& (2147483647 : Int32)))), .val (.int (own_max (1 : Int32) (p_ &&& (2147483647 : Int32)))), .val (.ref a107), .val (.double (FP.dadd (FP.ddiv (FP.dmul (own_W w_) (FP.i2d (own_max (1 : Int32) (p_ &&& (2147483647 : Int32))))) (FP.i2d (own_max (1 : Int32) (p_ &&& (2147483647 : Int32))))) (own_bg r_))), .second, .val (.long ((((own_A w_).toInt64) * ((own_max (1 : Int32) (p_ &&& (2147483647 : Int32))).toInt64)) + (((own_C r_).toInt64) * ((own_max (1 : Int32) (p_ &&& (2147483647 : Int32))).toInt64)))), .second, .val (.long ((8 : Int64) * ((own_max (1 : Int32) (p_ &&& (2147483647 : Int32))).toInt64))), .second, .unset, .unset] [(.long ((8 : Int64) * ((own_max (1 : Int32) (p_ &&& (2147483647 : Int32))).toInt64))), (.double (FP.l2d ((((own_A w_).toInt64) * ((own_max (1 : Int32) (p_ &&& (2147483647 : Int32))).toInt64)) + (((own_C r_).toInt64) * ((own_max (1 : Int32) (p_ &&& (2147483647 : Int32))).toInt64)))))])) _
        refine XS.l2dS X133.here hx rfl (hb hby at_142) rfl rfl ?_
        show Steps p.tables e below (T129.setTop (mkF m 143 #[.val (.int w_), .val (.int mo), .val (.int e_), .val (.int s_), .val (.int r_), .val (.int p_), .val (.int (own_A w_)), .val (.int (own_C r_)), .val (.double (own_bg r_)), .second, .val (.int (own_max (1 : Int32) (p_ &&& (2147483647 : Int32)))), .val (.int (own_max (1 : Int32) (p_ &&& (2147483647 : Int32)))), .val (.ref a107), .val (.double (FP.dadd (FP.ddiv (FP.dmul (own_W w_) (FP.i2d (own_max (1 : Int32) (p_ &&& (2147483647 : Int32))))) (FP.i2d (own_max (1 : Int32) (p_ &&& (2147483647 : Int32))))) (own_bg r_))), .second, .val (.long ((((own_A w_).toInt64) * ((own_max (1 : Int32) (p_ &&& (2147483647 : Int32))).toInt64)) + (((own_C r_).toInt64) * ((own_max (1 : Int32) (p_ &&& (2147483647 : Int32))).toInt64)))), .second, .val (.long ((8 : Int64) * ((own_max (1 : Int32) (p_ &&& (2147483647 : Int32))).toInt64))), .second, .unset, .unset] [(.double (FP.l2d ((8 : Int64) * ((own_max (1 : Int32) (p_ &&& (2147483647 : Int32))).toInt64)))), (.double (FP.l2d ((((own_A w_).toInt64) * ((own_max (1 : Int32) (p_ &&& (2147483647 : Int32))).toInt64)) + (((own_C r_).toInt64) * ((own_max (1 : Int32) (p_ &&& (2147483647 : Int32))).toInt64)))))])) _
        refine XS.ddivS X133.here hx rfl (hb hby at_143) rfl (own_no4 _ _ _ _ (own_ok2 w_ r_ (p_ &&& (2147483647 : Int32)))) rfl ?_
        show Steps p.tables e below (T129.setTop (mkF m 144 #[.val (.int w_), .val (.int mo), .val (.int e_), .val (.int s_), .val (.int r_), .val (.int p_), .val (.int (own_A w_)), .val (.int (own_C r_)), .val (.double (own_bg r_)), .second, .val (.int (own_max (1 : Int32) (p_ &&& (2147483647 : Int32)))), .val (.int (own_max (1 : Int32) (p_ &&& (2147483647 : Int32)))), .val (.ref a107), .val (.double (FP.dadd (FP.ddiv (FP.dmul (own_W w_) (FP.i2d (own_max (1 : Int32) (p_ &&& (2147483647 : Int32))))) (FP.i2d (own_max (1 : Int32) (p_ &&& (2147483647 : Int32))))) (own_bg r_))), .second, .val (.long ((((own_A w_).toInt64) * ((own_max (1 : Int32) (p_ &&& (2147483647 : Int32))).toInt64)) + (((own_C r_).toInt64) * ((own_max (1 : Int32) (p_ &&& (2147483647 : Int32))).toInt64)))), .second, .val (.long ((8 : Int64) * ((own_max (1 : Int32) (p_ &&& (2147483647 : Int32))).toInt64))), .second, .unset, .unset] [(.double (FP.ddiv (FP.l2d ((((own_A w_).toInt64) * ((own_max (1 : Int32) (p_ &&& (2147483647 : Int32))).toInt64)) + (((own_C r_).toInt64) * ((own_max (1 : Int32) (p_ &&& (2147483647 : Int32))).toInt64)))) (FP.l2d ((8 : Int64) * ((own_max (1 : Int32) (p_ &&& (2147483647 : Int32))).toInt64)))))])) _
        refine XS.dstore X133.here hx rfl (hb hby at_144) rfl (l' := #[.val (.int w_), .val (.int mo), .val (.int e_), .val (.int s_), .val (.int r_), .val (.int p_), .val (.int (own_A w_)), .val (.int (own_C r_)), .val (.double (own_bg r_)), .second, .val (.int (own_max (1 : Int32) (p_ &&& (2147483647 : Int32)))), .val (.int (own_max (1 : Int32) (p_ &&& (2147483647 : Int32)))), .val (.ref a107), .val (.double (FP.dadd (FP.ddiv (FP.dmul (own_W w_) (FP.i2d (own_max (1 : Int32) (p_ &&& (2147483647 : Int32))))) (FP.i2d (own_max (1 : Int32) (p_ &&& (2147483647 : Int32))))) (own_bg r_))), .second, .val (.long ((((own_A w_).toInt64) * ((own_max (1 : Int32) (p_ &&& (2147483647 : Int32))).toInt64)) + (((own_C r_).toInt64) * ((own_max (1 : Int32) (p_ &&& (2147483647 : Int32))).toInt64)))), .second, .val (.long ((8 : Int64) * ((own_max (1 : Int32) (p_ &&& (2147483647 : Int32))).toInt64))), .second, .val (.double (FP.ddiv (FP.l2d ((((own_A w_).toInt64) * ((own_max (1 : Int32) (p_ &&& (2147483647 : Int32))).toInt64)) + (((own_C r_).toInt64) * ((own_max (1 : Int32) (p_ &&& (2147483647 : Int32))).toInt64)))) (FP.l2d ((8 : Int64) * ((own_max (1 : Int32) (p_ &&& (2147483647 : Int32))).toInt64))))), .second]) rfl ?_
        show Steps p.tables e below (T129.setTop (mkF m 146 #[.val (.int w_), .val (.int mo), .val (.int e_), .val (.int s_), .val (.int r_), .val (.int p_), .val (.int (own_A w_)), .val (.int (own_C r_)), .val (.double (own_bg r_)), .second, .val (.int (own_max (1 : Int32) (p_ &&& (2147483647 : Int32)))), .val (.int (own_max (1 : Int32) (p_ &&& (2147483647 : Int32)))), .val (.ref a107), .val (.double (FP.dadd (FP.ddiv (FP.dmul (own_W w_) (FP.i2d (own_max (1 : Int32) (p_ &&& (2147483647 : Int32))))) (FP.i2d (own_max (1 : Int32) (p_ &&& (2147483647 : Int32))))) (own_bg r_))), .second, .val (.long ((((own_A w_).toInt64) * ((own_max (1 : Int32) (p_ &&& (2147483647 : Int32))).toInt64)) + (((own_C r_).toInt64) * ((own_max (1 : Int32) (p_ &&& (2147483647 : Int32))).toInt64)))), .second, .val (.long ((8 : Int64) * ((own_max (1 : Int32) (p_ &&& (2147483647 : Int32))).toInt64))), .second, .val (.double (FP.ddiv (FP.l2d ((((own_A w_).toInt64) * ((own_max (1 : Int32) (p_ &&& (2147483647 : Int32))).toInt64)) + (((own_C r_).toInt64) * ((own_max (1 : Int32) (p_ &&& (2147483647 : Int32))).toInt64)))) (FP.l2d ((8 : Int64) * ((own_max (1 : Int32) (p_ &&& (2147483647 : Int32))).toInt64))))), .second] [])) _
        refine XS.dload X133.here hx rfl (hb hby at_146) rfl ?_
        show Steps p.tables e below (T129.setTop (mkF m 148 #[.val (.int w_), .val (.int mo), .val (.int e_), .val (.int s_), .val (.int r_), .val (.int p_), .val (.int (own_A w_)), .val (.int (own_C r_)), .val (.double (own_bg r_)), .second, .val (.int (own_max (1 : Int32) (p_ &&& (2147483647 : Int32)))), .val (.int (own_max (1 : Int32) (p_ &&& (2147483647 : Int32)))), .val (.ref a107), .val (.double (FP.dadd (FP.ddiv (FP.dmul (own_W w_) (FP.i2d (own_max (1 : Int32) (p_ &&& (2147483647 : Int32))))) (FP.i2d (own_max (1 : Int32) (p_ &&& (2147483647 : Int32))))) (own_bg r_))), .second, .val (.long ((((own_A w_).toInt64) * ((own_max (1 : Int32) (p_ &&& (2147483647 : Int32))).toInt64)) + (((own_C r_).toInt64) * ((own_max (1 : Int32) (p_ &&& (2147483647 : Int32))).toInt64)))), .second, .val (.long ((8 : Int64) * ((own_max (1 : Int32) (p_ &&& (2147483647 : Int32))).toInt64))), .second, .val (.double (FP.ddiv (FP.l2d ((((own_A w_).toInt64) * ((own_max (1 : Int32) (p_ &&& (2147483647 : Int32))).toInt64)) + (((own_C r_).toInt64) * ((own_max (1 : Int32) (p_ &&& (2147483647 : Int32))).toInt64)))) (FP.l2d ((8 : Int64) * ((own_max (1 : Int32) (p_ &&& (2147483647 : Int32))).toInt64))))), .second] [(.double (FP.dadd (FP.ddiv (FP.dmul (own_W w_) (FP.i2d (own_max (1 : Int32) (p_ &&& (2147483647 : Int32))))) (FP.i2d (own_max (1 : Int32) (p_ &&& (2147483647 : Int32))))) (own_bg r_)))])) _
        refine XS.dload X133.here hx rfl (hb hby at_148) rfl ?_
        show Steps p.tables e below (T129.setTop (mkF m 150 #[.val (.int w_), .val (.int mo), .val (.int e_), .val (.int s_), .val (.int r_), .val (.int p_), .val (.int (own_A w_)), .val (.int (own_C r_)), .val (.double (own_bg r_)), .second, .val (.int (own_max (1 : Int32) (p_ &&& (2147483647 : Int32)))), .val (.int (own_max (1 : Int32) (p_ &&& (2147483647 : Int32)))), .val (.ref a107), .val (.double (FP.dadd (FP.ddiv (FP.dmul (own_W w_) (FP.i2d (own_max (1 : Int32) (p_ &&& (2147483647 : Int32))))) (FP.i2d (own_max (1 : Int32) (p_ &&& (2147483647 : Int32))))) (own_bg r_))), .second, .val (.long ((((own_A w_).toInt64) * ((own_max (1 : Int32) (p_ &&& (2147483647 : Int32))).toInt64)) + (((own_C r_).toInt64) * ((own_max (1 : Int32) (p_ &&& (2147483647 : Int32))).toInt64)))), .second, .val (.long ((8 : Int64) * ((own_max (1 : Int32) (p_ &&& (2147483647 : Int32))).toInt64))), .second, .val (.double (FP.ddiv (FP.l2d ((((own_A w_).toInt64) * ((own_max (1 : Int32) (p_ &&& (2147483647 : Int32))).toInt64)) + (((own_C r_).toInt64) * ((own_max (1 : Int32) (p_ &&& (2147483647 : Int32))).toInt64)))) (FP.l2d ((8 : Int64) * ((own_max (1 : Int32) (p_ &&& (2147483647 : Int32))).toInt64))))), .second] [(.double (FP.ddiv (FP.l2d ((((own_A w_).toInt64) * ((own_max (1 : Int32) (p_ &&& (2147483647 : Int32))).toInt64)) + (((own_C r_).toInt64) * ((own_max (1 : Int32) (p_ &&& (2147483647 : Int32))).toInt64)))) (FP.l2d ((8 : Int64) * ((own_max (1 : Int32) (p_ &&& (2147483647 : Int32))).toInt64))))), (.double (FP.dadd (FP.ddiv (FP.dmul (own_W w_) (FP.i2d (own_max (1 : Int32) (p_ &&& (2147483647 : Int32))))) (FP.i2d (own_max (1 : Int32) (p_ &&& (2147483647 : Int32))))) (own_bg r_)))])) _
        refine XS.dcmpS X133.here hx rfl (hb hby at_150) rfl (own_fin _ _ _ _ (own_ok2 w_ r_ (p_ &&& (2147483647 : Int32)))) ?_
        show Steps p.tables e below (T129.setTop (mkF m 151 #[.val (.int w_), .val (.int mo), .val (.int e_), .val (.int s_), .val (.int r_), .val (.int p_), .val (.int (own_A w_)), .val (.int (own_C r_)), .val (.double (own_bg r_)), .second, .val (.int (own_max (1 : Int32) (p_ &&& (2147483647 : Int32)))), .val (.int (own_max (1 : Int32) (p_ &&& (2147483647 : Int32)))), .val (.ref a107), .val (.double (FP.dadd (FP.ddiv (FP.dmul (own_W w_) (FP.i2d (own_max (1 : Int32) (p_ &&& (2147483647 : Int32))))) (FP.i2d (own_max (1 : Int32) (p_ &&& (2147483647 : Int32))))) (own_bg r_))), .second, .val (.long ((((own_A w_).toInt64) * ((own_max (1 : Int32) (p_ &&& (2147483647 : Int32))).toInt64)) + (((own_C r_).toInt64) * ((own_max (1 : Int32) (p_ &&& (2147483647 : Int32))).toInt64)))), .second, .val (.long ((8 : Int64) * ((own_max (1 : Int32) (p_ &&& (2147483647 : Int32))).toInt64))), .second, .val (.double (FP.ddiv (FP.l2d ((((own_A w_).toInt64) * ((own_max (1 : Int32) (p_ &&& (2147483647 : Int32))).toInt64)) + (((own_C r_).toInt64) * ((own_max (1 : Int32) (p_ &&& (2147483647 : Int32))).toInt64)))) (FP.l2d ((8 : Int64) * ((own_max (1 : Int32) (p_ &&& (2147483647 : Int32))).toInt64))))), .second] [(.int (0 : Int32))])) _
        refine XS.ifNo X133.here hx rfl (hb hby at_151) rfl (by decide) ?_
        show Steps p.tables e below (T129.setTop (mkF m 154 #[.val (.int w_), .val (.int mo), .val (.int e_), .val (.int s_), .val (.int r_), .val (.int p_), .val (.int (own_A w_)), .val (.int (own_C r_)), .val (.double (own_bg r_)), .second, .val (.int (own_max (1 : Int32) (p_ &&& (2147483647 : Int32)))), .val (.int (own_max (1 : Int32) (p_ &&& (2147483647 : Int32)))), .val (.ref a107), .val (.double (FP.dadd (FP.ddiv (FP.dmul (own_W w_) (FP.i2d (own_max (1 : Int32) (p_ &&& (2147483647 : Int32))))) (FP.i2d (own_max (1 : Int32) (p_ &&& (2147483647 : Int32))))) (own_bg r_))), .second, .val (.long ((((own_A w_).toInt64) * ((own_max (1 : Int32) (p_ &&& (2147483647 : Int32))).toInt64)) + (((own_C r_).toInt64) * ((own_max (1 : Int32) (p_ &&& (2147483647 : Int32))).toInt64)))), .second, .val (.long ((8 : Int64) * ((own_max (1 : Int32) (p_ &&& (2147483647 : Int32))).toInt64))), .second, .val (.double (FP.ddiv (FP.l2d ((((own_A w_).toInt64) * ((own_max (1 : Int32) (p_ &&& (2147483647 : Int32))).toInt64)) + (((own_C r_).toInt64) * ((own_max (1 : Int32) (p_ &&& (2147483647 : Int32))).toInt64)))) (FP.l2d ((8 : Int64) * ((own_max (1 : Int32) (p_ &&& (2147483647 : Int32))).toInt64))))), .second] [])) _
        refine XS.iconst X133.here hx rfl (hb hby at_154) ?_
        show Steps p.tables e below (T129.setTop (mkF m 155 #[.val (.int w_), .val (.int mo), .val (.int e_), .val (.int s_), .val (.int r_), .val (.int p_), .val (.int (own_A w_)), .val (.int (own_C r_)), .val (.double (own_bg r_)), .second, .val (.int (own_max (1 : Int32) (p_ &&& (2147483647 : Int32)))), .val (.int (own_max (1 : Int32) (p_ &&& (2147483647 : Int32)))), .val (.ref a107), .val (.double (FP.dadd (FP.ddiv (FP.dmul (own_W w_) (FP.i2d (own_max (1 : Int32) (p_ &&& (2147483647 : Int32))))) (FP.i2d (own_max (1 : Int32) (p_ &&& (2147483647 : Int32))))) (own_bg r_))), .second, .val (.long ((((own_A w_).toInt64) * ((own_max (1 : Int32) (p_ &&& (2147483647 : Int32))).toInt64)) + (((own_C r_).toInt64) * ((own_max (1 : Int32) (p_ &&& (2147483647 : Int32))).toInt64)))), .second, .val (.long ((8 : Int64) * ((own_max (1 : Int32) (p_ &&& (2147483647 : Int32))).toInt64))), .second, .val (.double (FP.ddiv (FP.l2d ((((own_A w_).toInt64) * ((own_max (1 : Int32) (p_ &&& (2147483647 : Int32))).toInt64)) + (((own_C r_).toInt64) * ((own_max (1 : Int32) (p_ &&& (2147483647 : Int32))).toInt64)))) (FP.l2d ((8 : Int64) * ((own_max (1 : Int32) (p_ &&& (2147483647 : Int32))).toInt64))))), .second] [(.int (1 : Int32))])) _
        refine XS.goto X133.here hx rfl (pc0 := 155) (pc' := 159) rfl (hb hby at_155) (by decide) (by decide) ?_
        show Steps p.tables e below (T129.setTop (mkF m 159 #[.val (.int w_), .val (.int mo), .val (.int e_), .val (.int s_), .val (.int r_), .val (.int p_), .val (.int (own_A w_)), .val (.int (own_C r_)), .val (.double (own_bg r_)), .second, .val (.int (own_max (1 : Int32) (p_ &&& (2147483647 : Int32)))), .val (.int (own_max (1 : Int32) (p_ &&& (2147483647 : Int32)))), .val (.ref a107), .val (.double (FP.dadd (FP.ddiv (FP.dmul (own_W w_) (FP.i2d (own_max (1 : Int32) (p_ &&& (2147483647 : Int32))))) (FP.i2d (own_max (1 : Int32) (p_ &&& (2147483647 : Int32))))) (own_bg r_))), .second, .val (.long ((((own_A w_).toInt64) * ((own_max (1 : Int32) (p_ &&& (2147483647 : Int32))).toInt64)) + (((own_C r_).toInt64) * ((own_max (1 : Int32) (p_ &&& (2147483647 : Int32))).toInt64)))), .second, .val (.long ((8 : Int64) * ((own_max (1 : Int32) (p_ &&& (2147483647 : Int32))).toInt64))), .second, .val (.double (FP.ddiv (FP.l2d ((((own_A w_).toInt64) * ((own_max (1 : Int32) (p_ &&& (2147483647 : Int32))).toInt64)) + (((own_C r_).toInt64) * ((own_max (1 : Int32) (p_ &&& (2147483647 : Int32))).toInt64)))) (FP.l2d ((8 : Int64) * ((own_max (1 : Int32) (p_ &&& (2147483647 : Int32))).toInt64))))), .second] [(.int (1 : Int32))])) _
        exact hh)
      obtain ⟨fs, hr, hrun, hended, hW, hsame⟩ := X133.leave (v := some (.int (1 : Int32))) (fun h => by rw [Bd.returns] at h; cases h)
      refine ⟨_, _, k26 _ (retN X133 hx (t := .boolean) Bd.returns (by simp) (hb hby at_159) hr), hrun, hended, _, _, rfl, ?_, ⟨_, rfl⟩, hW, hsame.mono (by decide) (by decide)⟩
      show QL h0 n0 _ T129.heap _
      rw [e146]
      exact ⟨rfl, N147⟩
  ·
    have k27 : own_K p e below (s₁.setTop (mkF m 48 #[.val (.int w_), .val (.int mo), .val (.int e_), .val (.int s_), .val (.int r_), .val (.int p_), .val (.int (own_A w_)), .val (.int (own_C r_)), .val (.double (own_bg r_)), .second, .val (.int ((1 : Int32) <<< (((e_ &&& (31 : Int32)) % (31 : Int32)) &&& 31))), .unset, .val (.int ((e_ &&& (31 : Int32)) % (31 : Int32))), .unset, .unset, .unset, .unset, .unset, .unset, .unset, .unset] [])) (s₁.setTop (entryFrame m #[(.int w_), (.int mo), (.int e_), (.int s_), (.int r_), (.int p_)] maxLocals)) := fun t hh => k7 t (by
      refine XS.ifNo X0.here hx rfl (hb hby at_30) rfl (own_ifF_eq c30) ?_
      show Steps p.tables e below (s₁.setTop (mkF m 33 #[.val (.int w_), .val (.int mo), .val (.int e_), .val (.int s_), .val (.int r_), .val (.int p_), .val (.int (own_A w_)), .val (.int (own_C r_)), .val (.double (own_bg r_)), .second, .unset, .unset, .unset, .unset, .unset, .unset, .unset, .unset, .unset, .unset, .unset] [])) _
      refine XS.iloadN X0.here hx rfl (hb hby at_33) rfl ?_
      show Steps p.tables e below (s₁.setTop (mkF m 34 #[.val (.int w_), .val (.int mo), .val (.int e_), .val (.int s_), .val (.int r_), .val (.int p_), .val (.int (own_A w_)), .val (.int (own_C r_)), .val (.double (own_bg r_)), .second, .unset, .unset, .unset, .unset, .unset, .unset, .unset, .unset, .unset, .unset, .unset] [(.int e_)])) _
      refine XS.bipush X0.here hx rfl (hb hby at_34) ?_
      show Steps p.tables e below (s₁.setTop (mkF m 36 #[.val (.int w_), .val (.int mo), .val (.int e_), .val (.int s_), .val (.int r_), .val (.int p_), .val (.int (own_A w_)), .val (.int (own_C r_)), .val (.double (own_bg r_)), .second, .unset, .unset, .unset, .unset, .unset, .unset, .unset, .unset, .unset, .unset, .unset] [(.int (31 : Int32)), (.int e_)])) _
      refine XS.iand X0.here hx rfl (hb hby at_36) rfl ?_
      show Steps p.tables e below (s₁.setTop (mkF m 37 #[.val (.int w_), .val (.int mo), .val (.int e_), .val (.int s_), .val (.int r_), .val (.int p_), .val (.int (own_A w_)), .val (.int (own_C r_)), .val (.double (own_bg r_)), .second, .unset, .unset, .unset, .unset, .unset, .unset, .unset, .unset, .unset, .unset, .unset] [(.int (e_ &&& (31 : Int32)))])) _
      refine XS.bipush X0.here hx rfl (hb hby at_37) ?_
      show Steps p.tables e below (s₁.setTop (mkF m 39 #[.val (.int w_), .val (.int mo), .val (.int e_), .val (.int s_), .val (.int r_), .val (.int p_), .val (.int (own_A w_)), .val (.int (own_C r_)), .val (.double (own_bg r_)), .second, .unset, .unset, .unset, .unset, .unset, .unset, .unset, .unset, .unset, .unset, .unset] [(.int (31 : Int32)), (.int (e_ &&& (31 : Int32)))])) _
      refine iremM X0 hx (g := (mkF m 39 #[.val (.int w_), .val (.int mo), .val (.int e_), .val (.int s_), .val (.int r_), .val (.int p_), .val (.int (own_A w_)), .val (.int (own_C r_)), .val (.double (own_bg r_)), .second, .unset, .unset, .unset, .unset, .unset, .unset, .unset, .unset, .unset, .unset, .unset] [(.int (31 : Int32)), (.int (e_ &&& (31 : Int32)))])) rfl (hb hby at_39) rfl (by decide) ?_
      show Steps p.tables e below (s₁.setTop (mkF m 40 #[.val (.int w_), .val (.int mo), .val (.int e_), .val (.int s_), .val (.int r_), .val (.int p_), .val (.int (own_A w_)), .val (.int (own_C r_)), .val (.double (own_bg r_)), .second, .unset, .unset, .unset, .unset, .unset, .unset, .unset, .unset, .unset, .unset, .unset] [(.int ((e_ &&& (31 : Int32)) % (31 : Int32)))])) _
      refine XS.istore X0.here hx rfl (hb hby at_40) rfl (l' := #[.val (.int w_), .val (.int mo), .val (.int e_), .val (.int s_), .val (.int r_), .val (.int p_), .val (.int (own_A w_)), .val (.int (own_C r_)), .val (.double (own_bg r_)), .second, .unset, .unset, .val (.int ((e_ &&& (31 : Int32)) % (31 : Int32))), .unset, .unset, .unset, .unset, .unset, .unset, .unset, .unset]) rfl ?_
      show Steps p.tables e below (s₁.setTop (mkF m 42 #[.val (.int w_), .val (.int mo), .val (.int e_), .val (.int s_), .val (.int r_), .val (.int p_), .val (.int (own_A w_)), .val (.int (own_C r_)), .val (.double (own_bg r_)), .second, .unset, .unset, .val (.int ((e_ &&& (31 : Int32)) % (31 : Int32))), .unset, .unset, .unset, .unset, .unset, .unset, .unset, .unset] [])) _
      refine XS.iconst X0.here hx rfl (hb hby at_42) ?_
      show Steps p.tables e below (s₁.setTop (mkF m 43 #[.val (.int w_), .val (.int mo), .val (.int e_), .val (.int s_), .val (.int r_), .val (.int p_), .val (.int (own_A w_)), .val (.int (own_C r_)), .val (.double (own_bg r_)), .second, .unset, .unset, .val (.int ((e_ &&& (31 : Int32)) % (31 : Int32))), .unset, .unset, .unset, .unset, .unset, .unset, .unset, .unset] [(.int (1 : Int32))])) _
      refine XS.iload X0.here hx rfl (hb hby at_43) rfl ?_
      show Steps p.tables e below (s₁.setTop (mkF m 45 #[.val (.int w_), .val (.int mo), .val (.int e_), .val (.int s_), .val (.int r_), .val (.int p_), .val (.int (own_A w_)), .val (.int (own_C r_)), .val (.double (own_bg r_)), .second, .unset, .unset, .val (.int ((e_ &&& (31 : Int32)) % (31 : Int32))), .unset, .unset, .unset, .unset, .unset, .unset, .unset, .unset] [(.int ((e_ &&& (31 : Int32)) % (31 : Int32))), (.int (1 : Int32))])) _
      refine XS.ishl X0.here hx rfl (hb hby at_45) rfl ?_
      show Steps p.tables e below (s₁.setTop (mkF m 46 #[.val (.int w_), .val (.int mo), .val (.int e_), .val (.int s_), .val (.int r_), .val (.int p_), .val (.int (own_A w_)), .val (.int (own_C r_)), .val (.double (own_bg r_)), .second, .unset, .unset, .val (.int ((e_ &&& (31 : Int32)) % (31 : Int32))), .unset, .unset, .unset, .unset, .unset, .unset, .unset, .unset] [(.int ((1 : Int32) <<< (((e_ &&& (31 : Int32)) % (31 : Int32)) &&& 31)))])) _
      refine XS.istore X0.here hx rfl (hb hby at_46) rfl (l' := #[.val (.int w_), .val (.int mo), .val (.int e_), .val (.int s_), .val (.int r_), .val (.int p_), .val (.int (own_A w_)), .val (.int (own_C r_)), .val (.double (own_bg r_)), .second, .val (.int ((1 : Int32) <<< (((e_ &&& (31 : Int32)) % (31 : Int32)) &&& 31))), .unset, .val (.int ((e_ &&& (31 : Int32)) % (31 : Int32))), .unset, .unset, .unset, .unset, .unset, .unset, .unset, .unset]) rfl ?_
      show Steps p.tables e below (s₁.setTop (mkF m 48 #[.val (.int w_), .val (.int mo), .val (.int e_), .val (.int s_), .val (.int r_), .val (.int p_), .val (.int (own_A w_)), .val (.int (own_C r_)), .val (.double (own_bg r_)), .second, .val (.int ((1 : Int32) <<< (((e_ &&& (31 : Int32)) % (31 : Int32)) &&& 31))), .unset, .val (.int ((e_ &&& (31 : Int32)) % (31 : Int32))), .unset, .unset, .unset, .unset, .unset, .unset, .unset, .unset] [])) _
      exact hh)
    have k28 : own_K p e below (s₁.setTop (mkF m 48 #[.val (.int w_), .val (.int mo), .val (.int e_), .val (.int s_), .val (.int r_), .val (.int p_), .val (.int (own_A w_)), .val (.int (own_C r_)), .val (.double (own_bg r_)), .second, .val (.int (own_len1 e_)), .unset, .val (.int ((e_ &&& (31 : Int32)) % (31 : Int32))), .unset, .unset, .unset, .unset, .unset, .unset, .unset, .unset] [])) (s₁.setTop (entryFrame m #[(.int w_), (.int mo), (.int e_), (.int s_), (.int r_), (.int p_)] maxLocals)) := k27
    have k29 : own_K p e below (s₁.setTop (mkF m 82 #[.val (.int w_), .val (.int mo), .val (.int e_), .val (.int s_), .val (.int r_), .val (.int p_), .val (.int (own_A w_)), .val (.int (own_C r_)), .val (.double (own_bg r_)), .second, .val (.int (own_len1 e_)), .val (.int (s_ &&& (2147483647 : Int32))), .val (.int ((e_ &&& (31 : Int32)) % (31 : Int32))), .unset, .unset, .unset, .unset, .unset, .unset, .unset, .unset] [])) (s₁.setTop (entryFrame m #[(.int w_), (.int mo), (.int e_), (.int s_), (.int r_), (.int p_)] maxLocals)) := fun t hh => k28 t (by
      refine XS.iloadN X0.here hx rfl (hb hby at_48) rfl ?_
      show Steps p.tables e below (s₁.setTop (mkF m 49 #[.val (.int w_), .val (.int mo), .val (.int e_), .val (.int s_), .val (.int r_), .val (.int p_), .val (.int (own_A w_)), .val (.int (own_C r_)), .val (.double (own_bg r_)), .second, .val (.int (own_len1 e_)), .unset, .val (.int ((e_ &&& (31 : Int32)) % (31 : Int32))), .unset, .unset, .unset, .unset, .unset, .unset, .unset, .unset] [(.int s_)])) _
      refine X0.ldcInt hx hown (mvT hZ (wT hw 0 rfl)) (g := (mkF m 49 #[.val (.int w_), .val (.int mo), .val (.int e_), .val (.int s_), .val (.int r_), .val (.int p_), .val (.int (own_A w_)), .val (.int (own_C r_)), .val (.double (own_bg r_)), .second, .val (.int (own_len1 e_)), .unset, .val (.int ((e_ &&& (31 : Int32)) % (31 : Int32))), .unset, .unset, .unset, .unset, .unset, .unset, .unset, .unset] [(.int s_)])) rfl (hb hby at_49) _ ?_
      show Steps p.tables e below (s₁.setTop (mkF m 51 #[.val (.int w_), .val (.int mo), .val (.int e_), .val (.int s_), .val (.int r_), .val (.int p_), .val (.int (own_A w_)), .val (.int (own_C r_)), .val (.double (own_bg r_)), .second, .val (.int (own_len1 e_)), .unset, .val (.int ((e_ &&& (31 : Int32)) % (31 : Int32))), .unset, .unset, .unset, .unset, .unset, .unset, .unset, .unset] [(.int (2147483647 : Int32)), (.int s_)])) _
      refine XS.iand X0.here hx rfl (hb hby at_51) rfl ?_
      show Steps p.tables e below (s₁.setTop (mkF m 52 #[.val (.int w_), .val (.int mo), .val (.int e_), .val (.int s_), .val (.int r_), .val (.int p_), .val (.int (own_A w_)), .val (.int (own_C r_)), .val (.double (own_bg r_)), .second, .val (.int (own_len1 e_)), .unset, .val (.int ((e_ &&& (31 : Int32)) % (31 : Int32))), .unset, .unset, .unset, .unset, .unset, .unset, .unset, .unset] [(.int (s_ &&& (2147483647 : Int32)))])) _
      refine XS.istore X0.here hx rfl (hb hby at_52) rfl (l' := #[.val (.int w_), .val (.int mo), .val (.int e_), .val (.int s_), .val (.int r_), .val (.int p_), .val (.int (own_A w_)), .val (.int (own_C r_)), .val (.double (own_bg r_)), .second, .val (.int (own_len1 e_)), .val (.int (s_ &&& (2147483647 : Int32))), .val (.int ((e_ &&& (31 : Int32)) % (31 : Int32))), .unset, .unset, .unset, .unset, .unset, .unset, .unset, .unset]) rfl ?_
      show Steps p.tables e below (s₁.setTop (mkF m 54 #[.val (.int w_), .val (.int mo), .val (.int e_), .val (.int s_), .val (.int r_), .val (.int p_), .val (.int (own_A w_)), .val (.int (own_C r_)), .val (.double (own_bg r_)), .second, .val (.int (own_len1 e_)), .val (.int (s_ &&& (2147483647 : Int32))), .val (.int ((e_ &&& (31 : Int32)) % (31 : Int32))), .unset, .unset, .unset, .unset, .unset, .unset, .unset, .unset] [])) _
      refine XS.goto X0.here hx rfl (pc0 := 54) (pc' := 82) rfl (hb hby at_54) (by decide) (by decide) ?_
      show Steps p.tables e below (s₁.setTop (mkF m 82 #[.val (.int w_), .val (.int mo), .val (.int e_), .val (.int s_), .val (.int r_), .val (.int p_), .val (.int (own_A w_)), .val (.int (own_C r_)), .val (.double (own_bg r_)), .second, .val (.int (own_len1 e_)), .val (.int (s_ &&& (2147483647 : Int32))), .val (.int ((e_ &&& (31 : Int32)) % (31 : Int32))), .unset, .unset, .unset, .unset, .unset, .unset, .unset, .unset] [])) _
      exact hh)
    obtain ⟨T148, h149, X150, e151, E152, A153, D154, U156, st155⟩ := newO X0 hx hZ hown (wT hw 3 rfl) (wT hw 4 rfl) (wT hw 5 rfl) e0 (g := (mkF m 82 #[.val (.int w_), .val (.int mo), .val (.int e_), .val (.int s_), .val (.int r_), .val (.int p_), .val (.int (own_A w_)), .val (.int (own_C r_)), .val (.double (own_bg r_)), .second, .val (.int (own_len1 e_)), .val (.int (s_ &&& (2147483647 : Int32))), .val (.int ((e_ &&& (31 : Int32)) % (31 : Int32))), .unset, .unset, .unset, .unset, .unset, .unset, .unset, .unset] [])) rfl (hb hby at_82) (by decide) (by decide)
    obtain ⟨a157, g158⟩ : ∃ z, z = h0.size := ⟨_, rfl⟩
    rw [← g158] at A153 D154 U156 st155
    have G159 : n0 ≤ a157 := Nat.le_trans Z0 (Nat.le_of_eq g158.symm)
    have Z160 : n0 ≤ h149.size := Nat.le_trans Z0 E152.1
    have F161 : Fld Z h149 a157 "com/example/geirfa/geirfa/retrieval/Smoothing$JelinekMercer" "documentWeight" "D" (.double (0 : UInt64)) := D154 (Or.inr (wT hw 18 rfl)) (ty := .double) (by decide)
    have k30 : own_K p e below (T148.setTop (mkF m 85 #[.val (.int w_), .val (.int mo), .val (.int e_), .val (.int s_), .val (.int r_), .val (.int p_), .val (.int (own_A w_)), .val (.int (own_C r_)), .val (.double (own_bg r_)), .second, .val (.int (own_len1 e_)), .val (.int (s_ &&& (2147483647 : Int32))), .val (.int ((e_ &&& (31 : Int32)) % (31 : Int32))), .unset, .unset, .unset, .unset, .unset, .unset, .unset, .unset] [(.ref a157)])) (s₁.setTop (entryFrame m #[(.int w_), (.int mo), (.int e_), (.int s_), (.int r_), (.int p_)] maxLocals)) := fun t hh => k29 t (st155 t hh)
    have k31 : own_K p e below (T148.setTop (mkF m 93 #[.val (.int w_), .val (.int mo), .val (.int e_), .val (.int s_), .val (.int r_), .val (.int p_), .val (.int (own_A w_)), .val (.int (own_C r_)), .val (.double (own_bg r_)), .second, .val (.int (own_len1 e_)), .val (.int (s_ &&& (2147483647 : Int32))), .val (.int ((e_ &&& (31 : Int32)) % (31 : Int32))), .unset, .unset, .unset, .unset, .unset, .unset, .unset, .unset] [(.double (FP.ddiv (FP.i2d (own_A w_)) (4620693217682128896 : UInt64))), (.ref a157), (.ref a157)])) (s₁.setTop (entryFrame m #[(.int w_), (.int mo), (.int e_), (.int s_), (.int r_), (.int p_)] maxLocals)) := fun t hh => k30 t (by
      refine XS.dup X150.here hx rfl (hb hby at_85) rfl rfl ?_
      show Steps p.tables e below (T148.setTop (mkF m 86 #[.val (.int w_), .val (.int mo), .val (.int e_), .val (.int s_), .val (.int r_), .val (.int p_), .val (.int (own_A w_)), .val (.int (own_C r_)), .val (.double (own_bg r_)), .second, .val (.int (own_len1 e_)), .val (.int (s_ &&& (2147483647 : Int32))), .val (.int ((e_ &&& (31 : Int32)) % (31 : Int32))), .unset, .unset, .unset, .unset, .unset, .unset, .unset, .unset] [(.ref a157), (.ref a157)])) _
      refine XS.iload X150.here hx rfl (hb hby at_86) rfl ?_
      show Steps p.tables e below (T148.setTop (mkF m 88 #[.val (.int w_), .val (.int mo), .val (.int e_), .val (.int s_), .val (.int r_), .val (.int p_), .val (.int (own_A w_)), .val (.int (own_C r_)), .val (.double (own_bg r_)), .second, .val (.int (own_len1 e_)), .val (.int (s_ &&& (2147483647 : Int32))), .val (.int ((e_ &&& (31 : Int32)) % (31 : Int32))), .unset, .unset, .unset, .unset, .unset, .unset, .unset, .unset] [(.int (own_A w_)), (.ref a157), (.ref a157)])) _
      refine XS.i2dS X150.here hx rfl (hb hby at_88) rfl rfl ?_
      show Steps p.tables e below (T148.setTop (mkF m 89 #[.val (.int w_), .val (.int mo), .val (.int e_), .val (.int s_), .val (.int r_), .val (.int p_), .val (.int (own_A w_)), .val (.int (own_C r_)), .val (.double (own_bg r_)), .second, .val (.int (own_len1 e_)), .val (.int (s_ &&& (2147483647 : Int32))), .val (.int ((e_ &&& (31 : Int32)) % (31 : Int32))), .unset, .unset, .unset, .unset, .unset, .unset, .unset, .unset] [(.double (FP.i2d (own_A w_))), (.ref a157), (.ref a157)])) _
      refine X150.ldc2DoubleC hx hown (mvT hZ (wT hw 2 rfl)) (g := (mkF m 89 #[.val (.int w_), .val (.int mo), .val (.int e_), .val (.int s_), .val (.int r_), .val (.int p_), .val (.int (own_A w_)), .val (.int (own_C r_)), .val (.double (own_bg r_)), .second, .val (.int (own_len1 e_)), .val (.int (s_ &&& (2147483647 : Int32))), .val (.int ((e_ &&& (31 : Int32)) % (31 : Int32))), .unset, .unset, .unset, .unset, .unset, .unset, .unset, .unset] [(.double (FP.i2d (own_A w_))), (.ref a157), (.ref a157)])) rfl (hb hby at_89) _ ?_
      show Steps p.tables e below (T148.setTop (mkF m 92 #[.val (.int w_), .val (.int mo), .val (.int e_), .val (.int s_), .val (.int r_), .val (.int p_), .val (.int (own_A w_)), .val (.int (own_C r_)), .val (.double (own_bg r_)), .second, .val (.int (own_len1 e_)), .val (.int (s_ &&& (2147483647 : Int32))), .val (.int ((e_ &&& (31 : Int32)) % (31 : Int32))), .unset, .unset, .unset, .unset, .unset, .unset, .unset, .unset] [(.double (4620693217682128896 : UInt64)), (.double (FP.i2d (own_A w_))), (.ref a157), (.ref a157)])) _
      refine XS.ddivS X150.here hx rfl (hb hby at_92) rfl (own_W_dy w_).no rfl ?_
      show Steps p.tables e below (T148.setTop (mkF m 93 #[.val (.int w_), .val (.int mo), .val (.int e_), .val (.int s_), .val (.int r_), .val (.int p_), .val (.int (own_A w_)), .val (.int (own_C r_)), .val (.double (own_bg r_)), .second, .val (.int (own_len1 e_)), .val (.int (s_ &&& (2147483647 : Int32))), .val (.int ((e_ &&& (31 : Int32)) % (31 : Int32))), .unset, .unset, .unset, .unset, .unset, .unset, .unset, .unset] [(.double (FP.ddiv (FP.i2d (own_A w_)) (4620693217682128896 : UInt64))), (.ref a157), (.ref a157)])) _
      exact hh)
    have k32 : own_K p e below (T148.setTop (mkF m 93 #[.val (.int w_), .val (.int mo), .val (.int e_), .val (.int s_), .val (.int r_), .val (.int p_), .val (.int (own_A w_)), .val (.int (own_C r_)), .val (.double (own_bg r_)), .second, .val (.int (own_len1 e_)), .val (.int (s_ &&& (2147483647 : Int32))), .val (.int ((e_ &&& (31 : Int32)) % (31 : Int32))), .unset, .unset, .unset, .unset, .unset, .unset, .unset, .unset] [(.double (own_W w_)), (.ref a157), (.ref a157)])) (s₁.setTop (entryFrame m #[(.int w_), (.int mo), (.int e_), (.int s_), (.int r_), (.int p_)] maxLocals)) := k31
    obtain ⟨_, _, ⟨T162, L163, k_164, n_165⟩, -, X166, ⟨Lc167, hQ168, l_169, y_170, z_171⟩, st172⟩ := X150.specialBack hx (y := (⟨"com/example/geirfa/geirfa/retrieval/Smoothing$JelinekMercer", "<init>", "(D)V"⟩ : MethodName)) rfl hown (mvT hZ (wT hw 6 rfl)) (mvT hZ (wT hw 7 rfl)) (mvT hZ (wT hw 8 rfl)) (by decide) (backOf (W := 1) (rmC l Z a0 hw [] a157 (own_W w_) h149 n0 Z160 F161 A153 G159 (own_W_gt w_) (own_W_lt w_)) hZ (wT hw 8 rfl) (wT hw 5 rfl) (by decide) (by decide)) (g := (mkF m 93 #[.val (.int w_), .val (.int mo), .val (.int e_), .val (.int s_), .val (.int r_), .val (.int p_), .val (.int (own_A w_)), .val (.int (own_C r_)), .val (.double (own_bg r_)), .second, .val (.int (own_len1 e_)), .val (.int (s_ &&& (2147483647 : Int32))), .val (.int ((e_ &&& (31 : Int32)) % (31 : Int32))), .unset, .unset, .unset, .unset, .unset, .unset, .unset, .unset] [(.double (own_W w_)), (.ref a157), (.ref a157)])) rfl (by rw [hml]; rfl) (Steps.refl _) (a := a157) (argsL := [(.double (own_W w_))]) (rest := [(.ref a157)]) (lenOf own_h5 rfl) rfl (by show 2 * 0 + _ ≤ _; exact Nat.le_of_eq rfl) (hb hby at_93) (fun _ _ => ⟨rfl, e151, (by decide : 1 + 0 ≤ _), (by decide : 1 + 0 ≤ _)⟩)
    dsimp only [Pt.U, Pt.locs, Pt.cells, Pt.slots] at X166 l_169 y_170 z_171 st172 hQ168
    subst l_169 y_170 z_171
    obtain ⟨rfl, N173, K174, E175, F176⟩ := hQ168
    have N177 := Fr.app N0 N173
    have Z178 : n0 ≤ T162.heap.size := Nat.le_trans Z160 K174.1
    have k33 : own_K p e below (T162.setTop (mkF m 96 #[.val (.int w_), .val (.int mo), .val (.int e_), .val (.int s_), .val (.int r_), .val (.int p_), .val (.int (own_A w_)), .val (.int (own_C r_)), .val (.double (own_bg r_)), .second, .val (.int (own_len1 e_)), .val (.int (s_ &&& (2147483647 : Int32))), .val (.int ((e_ &&& (31 : Int32)) % (31 : Int32))), .unset, .unset, .unset, .unset, .unset, .unset, .unset, .unset] [(.ref a157)])) (s₁.setTop (entryFrame m #[(.int w_), (.int mo), (.int e_), (.int s_), (.int r_), (.int p_)] maxLocals)) := fun t hh => k32 t (st172.trans hh)
    have k34 : own_K p e below (T162.setTop (mkF m 106 #[.val (.int w_), .val (.int mo), .val (.int e_), .val (.int s_), .val (.int r_), .val (.int p_), .val (.int (own_A w_)), .val (.int (own_C r_)), .val (.double (own_bg r_)), .second, .val (.int (own_len1 e_)), .val (.int (s_ &&& (2147483647 : Int32))), .val (.ref a157), .unset, .unset, .unset, .unset, .unset, .unset, .unset, .unset] [(.double (own_bg r_)), (.int (own_len1 e_)), (.int (s_ &&& (2147483647 : Int32))), (.ref a157)])) (s₁.setTop (entryFrame m #[(.int w_), (.int mo), (.int e_), (.int s_), (.int r_), (.int p_)] maxLocals)) := fun t hh => k33 t (by
      refine XS.astore X166.here hx rfl (hb hby at_96) rfl rfl (l' := #[.val (.int w_), .val (.int mo), .val (.int e_), .val (.int s_), .val (.int r_), .val (.int p_), .val (.int (own_A w_)), .val (.int (own_C r_)), .val (.double (own_bg r_)), .second, .val (.int (own_len1 e_)), .val (.int (s_ &&& (2147483647 : Int32))), .val (.ref a157), .unset, .unset, .unset, .unset, .unset, .unset, .unset, .unset]) rfl ?_
      show Steps p.tables e below (T162.setTop (mkF m 98 #[.val (.int w_), .val (.int mo), .val (.int e_), .val (.int s_), .val (.int r_), .val (.int p_), .val (.int (own_A w_)), .val (.int (own_C r_)), .val (.double (own_bg r_)), .second, .val (.int (own_len1 e_)), .val (.int (s_ &&& (2147483647 : Int32))), .val (.ref a157), .unset, .unset, .unset, .unset, .unset, .unset, .unset, .unset] [])) _
      refine XS.aload X166.here hx rfl (hb hby at_98) rfl rfl ?_
      show Steps p.tables e below (T162.setTop (mkF m 100 #[.val (.int w_), .val (.int mo), .val (.int e_), .val (.int s_), .val (.int r_), .val (.int p_), .val (.int (own_A w_)), .val (.int (own_C r_)), .val (.double (own_bg r_)), .second, .val (.int (own_len1 e_)), .val (.int (s_ &&& (2147483647 : Int32))), .val (.ref a157), .unset, .unset, .unset, .unset, .unset, .unset, .unset, .unset] [(.ref a157)])) _
      refine XS.iload X166.here hx rfl (hb hby at_100) rfl ?_
      show Steps p.tables e below (T162.setTop (mkF m 102 #[.val (.int w_), .val (.int mo), .val (.int e_), .val (.int s_), .val (.int r_), .val (.int p_), .val (.int (own_A w_)), .val (.int (own_C r_)), .val (.double (own_bg r_)), .second, .val (.int (own_len1 e_)), .val (.int (s_ &&& (2147483647 : Int32))), .val (.ref a157), .unset, .unset, .unset, .unset, .unset, .unset, .unset, .unset] [(.int (s_ &&& (2147483647 : Int32))), (.ref a157)])) _
      refine XS.iload X166.here hx rfl (hb hby at_102) rfl ?_
      show Steps p.tables e below (T162.setTop (mkF m 104 #[.val (.int w_), .val (.int mo), .val (.int e_), .val (.int s_), .val (.int r_), .val (.int p_), .val (.int (own_A w_)), .val (.int (own_C r_)), .val (.double (own_bg r_)), .second, .val (.int (own_len1 e_)), .val (.int (s_ &&& (2147483647 : Int32))), .val (.ref a157), .unset, .unset, .unset, .unset, .unset, .unset, .unset, .unset] [(.int (own_len1 e_)), (.int (s_ &&& (2147483647 : Int32))), (.ref a157)])) _
      refine XS.dload X166.here hx rfl (hb hby at_104) rfl ?_
      show Steps p.tables e below (T162.setTop (mkF m 106 #[.val (.int w_), .val (.int mo), .val (.int e_), .val (.int s_), .val (.int r_), .val (.int p_), .val (.int (own_A w_)), .val (.int (own_C r_)), .val (.double (own_bg r_)), .second, .val (.int (own_len1 e_)), .val (.int (s_ &&& (2147483647 : Int32))), .val (.ref a157), .unset, .unset, .unset, .unset, .unset, .unset, .unset, .unset] [(.double (own_bg r_)), (.int (own_len1 e_)), (.int (s_ &&& (2147483647 : Int32))), (.ref a157)])) _
      exact hh)
    obtain ⟨cq190, kq191, qa192, qb193, qc194⟩ := isOf hZ rfl E175
    obtain ⟨_, _, ⟨T179, L180, k_181, n_182⟩, -, X183, ⟨Lc184, hQ185, l_186, y_187, z_188⟩, st189⟩ := X166.virtualBack hx (y := (⟨"com/example/geirfa/geirfa/retrieval/Smoothing$JelinekMercer", "probability", "(IID)D"⟩ : MethodName)) (z := (⟨"com/example/geirfa/geirfa/retrieval/Smoothing$JelinekMercer", "probability", "(IID)D"⟩ : MethodName)) hown (mvT hZ (wT hw 19 rfl)) (mvT hZ (wT hw 20 rfl)) (notFace_of_selects (args := #[]) (mvT hZ (wT hw 22 rfl))) (mvT hZ (wT hw 22 rfl)) (mvT hZ (wT hw 21 rfl)) (by decide) (backOf (W := 0) (rmB l Z a0 hw [] a157 (s_ &&& (2147483647 : Int32)) (own_len1 e_) (own_bg r_) (own_W w_) T162.heap n0 Z178 F176 (own_no1 _ _ _ _ (own_ok1 w_ r_ e_ s_)) (own_no2 _ _ _ _ (own_ok1 w_ r_ e_ s_)) (own_no3 _ _ _ _ (own_ok1 w_ r_ e_ s_))) hZ (wT hw 23 rfl) (wT hw 5 rfl) (by decide) (by decide)) qa192 qc194 (g := (mkF m 106 #[.val (.int w_), .val (.int mo), .val (.int e_), .val (.int s_), .val (.int r_), .val (.int p_), .val (.int (own_A w_)), .val (.int (own_C r_)), .val (.double (own_bg r_)), .second, .val (.int (own_len1 e_)), .val (.int (s_ &&& (2147483647 : Int32))), .val (.ref a157), .unset, .unset, .unset, .unset, .unset, .unset, .unset, .unset] [(.double (own_bg r_)), (.int (own_len1 e_)), (.int (s_ &&& (2147483647 : Int32))), (.ref a157)])) rfl (by rw [hml]; rfl) (Steps.refl _) (argsL := [(.int (s_ &&& (2147483647 : Int32))), (.int (own_len1 e_)), (.double (own_bg r_))]) (rest := []) (lenOf own_h7 rfl) rfl (by show 2 * 0 + _ ≤ _; exact Nat.le_of_eq rfl) (hb hby at_106) (fun _ _ => ⟨rfl, rfl, (by decide : 1 + 0 ≤ _), (by decide : 1 + 0 ≤ _)⟩)
    dsimp only [Pt.U, Pt.locs, Pt.cells, Pt.slots] at X183 l_186 y_187 z_188 st189 hQ185
    subst l_186 y_187 z_188
    obtain ⟨rfl, N195, e196⟩ := hQ185
    have N197 := Fr.app N177 N195
    have k35 : own_K p e below (T179.setTop (mkF m 109 #[.val (.int w_), .val (.int mo), .val (.int e_), .val (.int s_), .val (.int r_), .val (.int p_), .val (.int (own_A w_)), .val (.int (own_C r_)), .val (.double (own_bg r_)), .second, .val (.int (own_len1 e_)), .val (.int (s_ &&& (2147483647 : Int32))), .val (.ref a157), .unset, .unset, .unset, .unset, .unset, .unset, .unset, .unset] [(.double (FP.dadd (FP.ddiv (FP.dmul (own_W w_) (FP.i2d (s_ &&& (2147483647 : Int32)))) (FP.i2d (own_len1 e_))) (own_bg r_)))])) (s₁.setTop (entryFrame m #[(.int w_), (.int mo), (.int e_), (.int s_), (.int r_), (.int p_)] maxLocals)) := fun t hh => k34 t (st189.trans hh)
    have k36 : own_K p e below (T179.setTop (mkF m 159 #[.val (.int w_), .val (.int mo), .val (.int e_), .val (.int s_), .val (.int r_), .val (.int p_), .val (.int (own_A w_)), .val (.int (own_C r_)), .val (.double (own_bg r_)), .second, .val (.int (own_len1 e_)), .val (.int (s_ &&& (2147483647 : Int32))), .val (.ref a157), .val (.double (FP.dadd (FP.ddiv (FP.dmul (own_W w_) (FP.i2d (s_ &&& (2147483647 : Int32)))) (FP.i2d (own_len1 e_))) (own_bg r_))), .second, .val (.long ((((own_A w_).toInt64) * ((s_ &&& (2147483647 : Int32)).toInt64)) + (((own_C r_).toInt64) * ((own_len1 e_).toInt64)))), .second, .val (.long ((8 : Int64) * ((own_len1 e_).toInt64))), .second, .val (.double (FP.ddiv (FP.l2d ((((own_A w_).toInt64) * ((s_ &&& (2147483647 : Int32)).toInt64)) + (((own_C r_).toInt64) * ((own_len1 e_).toInt64)))) (FP.l2d ((8 : Int64) * ((own_len1 e_).toInt64))))), .second] [(.int (1 : Int32))])) (s₁.setTop (entryFrame m #[(.int w_), (.int mo), (.int e_), (.int s_), (.int r_), (.int p_)] maxLocals)) := fun t hh => k35 t (by
      refine XS.dstore X183.here hx rfl (hb hby at_109) rfl (l' := #[.val (.int w_), .val (.int mo), .val (.int e_), .val (.int s_), .val (.int r_), .val (.int p_), .val (.int (own_A w_)), .val (.int (own_C r_)), .val (.double (own_bg r_)), .second, .val (.int (own_len1 e_)), .val (.int (s_ &&& (2147483647 : Int32))), .val (.ref a157), .val (.double (FP.dadd (FP.ddiv (FP.dmul (own_W w_) (FP.i2d (s_ &&& (2147483647 : Int32)))) (FP.i2d (own_len1 e_))) (own_bg r_))), .second, .unset, .unset, .unset, .unset, .unset, .unset]) rfl ?_
      show Steps p.tables e below (T179.setTop (mkF m 111 #[.val (.int w_), .val (.int mo), .val (.int e_), .val (.int s_), .val (.int r_), .val (.int p_), .val (.int (own_A w_)), .val (.int (own_C r_)), .val (.double (own_bg r_)), .second, .val (.int (own_len1 e_)), .val (.int (s_ &&& (2147483647 : Int32))), .val (.ref a157), .val (.double (FP.dadd (FP.ddiv (FP.dmul (own_W w_) (FP.i2d (s_ &&& (2147483647 : Int32)))) (FP.i2d (own_len1 e_))) (own_bg r_))), .second, .unset, .unset, .unset, .unset, .unset, .unset] [])) _
      refine XS.iload X183.here hx rfl (hb hby at_111) rfl ?_
      show Steps p.tables e below (T179.setTop (mkF m 113 #[.val (.int w_), .val (.int mo), .val (.int e_), .val (.int s_), .val (.int r_), .val (.int p_), .val (.int (own_A w_)), .val (.int (own_C r_)), .val (.double (own_bg r_)), .second, .val (.int (own_len1 e_)), .val (.int (s_ &&& (2147483647 : Int32))), .val (.ref a157), .val (.double (FP.dadd (FP.ddiv (FP.dmul (own_W w_) (FP.i2d (s_ &&& (2147483647 : Int32)))) (FP.i2d (own_len1 e_))) (own_bg r_))), .second, .unset, .unset, .unset, .unset, .unset, .unset] [(.int (own_A w_))])) _
      refine XS.i2l X183.here hx rfl (hb hby at_113) rfl ?_
      show Steps p.tables e below (T179.setTop (mkF m 114 #[.val (.int w_), .val (.int mo), .val (.int e_), .val (.int s_), .val (.int r_), .val (.int p_), .val (.int (own_A w_)), .val (.int (own_C r_)), .val (.double (own_bg r_)), .second, .val (.int (own_len1 e_)), .val (.int (s_ &&& (2147483647 : Int32))), .val (.ref a157), .val (.double (FP.dadd (FP.ddiv (FP.dmul (own_W w_) (FP.i2d (s_ &&& (2147483647 : Int32)))) (FP.i2d (own_len1 e_))) (own_bg r_))), .second, .unset, .unset, .unset, .unset, .unset, .unset] [(.long ((own_A w_).toInt64))])) _
      refine XS.iload X183.here hx rfl (hb hby at_114) rfl ?_
      show Steps p.tables e below (T179.setTop (mkF m 116 #[.val (.int w_), .val (.int mo), .val (.int e_), .val (.int s_), .val (.int r_), .val (.int p_), .val (.int (own_A w_)), .val (.int (own_C r_)), .val (.double (own_bg r_)), .second, .val (.int (own_len1 e_)), .val (.int (s_ &&& (2147483647 : Int32))), .val (.ref a157), .val (.double (FP.dadd (FP.ddiv (FP.dmul (own_W w_) (FP.i2d (s_ &&& (2147483647 : Int32)))) (FP.i2d (own_len1 e_))) (own_bg r_))), .second, .unset, .unset, .unset, .unset, .unset, .unset] [(.int (s_ &&& (2147483647 : Int32))), (.long ((own_A w_).toInt64))])) _
      refine XS.i2l X183.here hx rfl (hb hby at_116) rfl ?_
      show Steps p.tables e below (T179.setTop (mkF m 117 #[.val (.int w_), .val (.int mo), .val (.int e_), .val (.int s_), .val (.int r_), .val (.int p_), .val (.int (own_A w_)), .val (.int (own_C r_)), .val (.double (own_bg r_)), .second, .val (.int (own_len1 e_)), .val (.int (s_ &&& (2147483647 : Int32))), .val (.ref a157), .val (.double (FP.dadd (FP.ddiv (FP.dmul (own_W w_) (FP.i2d (s_ &&& (2147483647 : Int32)))) (FP.i2d (own_len1 e_))) (own_bg r_))), .second, .unset, .unset, .unset, .unset, .unset, .unset] [(.long ((s_ &&& (2147483647 : Int32)).toInt64)), (.long ((own_A w_).toInt64))])) _
      refine XS.lmul X183.here hx rfl (hb hby at_117) rfl ?_
      show Steps p.tables e below (T179.setTop (mkF m 118 #[.val (.int w_), .val (.int mo), .val (.int e_), .val (.int s_), .val (.int r_), .val (.int p_), .val (.int (own_A w_)), .val (.int (own_C r_)), .val (.double (own_bg r_)), .second, .val (.int (own_len1 e_)), .val (.int (s_ &&& (2147483647 : Int32))), .val (.ref a157), .val (.double (FP.dadd (FP.ddiv (FP.dmul (own_W w_) (FP.i2d (s_ &&& (2147483647 : Int32)))) (FP.i2d (own_len1 e_))) (own_bg r_))), .second, .unset, .unset, .unset, .unset, .unset, .unset] [(.long (((own_A w_).toInt64) * ((s_ &&& (2147483647 : Int32)).toInt64)))])) _
      refine XS.iload X183.here hx rfl (hb hby at_118) rfl ?_
      show Steps p.tables e below (T179.setTop (mkF m 120 #[.val (.int w_), .val (.int mo), .val (.int e_), .val (.int s_), .val (.int r_), .val (.int p_), .val (.int (own_A w_)), .val (.int (own_C r_)), .val (.double (own_bg r_)), .second, .val (.int (own_len1 e_)), .val (.int (s_ &&& (2147483647 : Int32))), .val (.ref a157), .val (.double (FP.dadd (FP.ddiv (FP.dmul (own_W w_) (FP.i2d (s_ &&& (2147483647 : Int32)))) (FP.i2d (own_len1 e_))) (own_bg r_))), .second, .unset, .unset, .unset, .unset, .unset, .unset] [(.int (own_C r_)), (.long (((own_A w_).toInt64) * ((s_ &&& (2147483647 : Int32)).toInt64)))])) _
      refine XS.i2l X183.here hx rfl (hb hby at_120) rfl ?_
      show Steps p.tables e below (T179.setTop (mkF m 121 #[.val (.int w_), .val (.int mo), .val (.int e_), .val (.int s_), .val (.int r_), .val (.int p_), .val (.int (own_A w_)), .val (.int (own_C r_)), .val (.double (own_bg r_)), .second, .val (.int (own_len1 e_)), .val (.int (s_ &&& (2147483647 : Int32))), .val (.ref a157), .val (.double (FP.dadd (FP.ddiv (FP.dmul (own_W w_) (FP.i2d (s_ &&& (2147483647 : Int32)))) (FP.i2d (own_len1 e_))) (own_bg r_))), .second, .unset, .unset, .unset, .unset, .unset, .unset] [(.long ((own_C r_).toInt64)), (.long (((own_A w_).toInt64) * ((s_ &&& (2147483647 : Int32)).toInt64)))])) _
      refine XS.iload X183.here hx rfl (hb hby at_121) rfl ?_
      show Steps p.tables e below (T179.setTop (mkF m 123 #[.val (.int w_), .val (.int mo), .val (.int e_), .val (.int s_), .val (.int r_), .val (.int p_), .val (.int (own_A w_)), .val (.int (own_C r_)), .val (.double (own_bg r_)), .second, .val (.int (own_len1 e_)), .val (.int (s_ &&& (2147483647 : Int32))), .val (.ref a157), .val (.double (FP.dadd (FP.ddiv (FP.dmul (own_W w_) (FP.i2d (s_ &&& (2147483647 : Int32)))) (FP.i2d (own_len1 e_))) (own_bg r_))), .second, .unset, .unset, .unset, .unset, .unset, .unset] [(.int (own_len1 e_)), (.long ((own_C r_).toInt64)), (.long (((own_A w_).toInt64) * ((s_ &&& (2147483647 : Int32)).toInt64)))])) _
      refine XS.i2l X183.here hx rfl (hb hby at_123) rfl ?_
      show Steps p.tables e below (T179.setTop (mkF m 124 #[.val (.int w_), .val (.int mo), .val (.int e_), .val (.int s_), .val (.int r_), .val (.int p_), .val (.int (own_A w_)), .val (.int (own_C r_)), .val (.double (own_bg r_)), .second, .val (.int (own_len1 e_)), .val (.int (s_ &&& (2147483647 : Int32))), .val (.ref a157), .val (.double (FP.dadd (FP.ddiv (FP.dmul (own_W w_) (FP.i2d (s_ &&& (2147483647 : Int32)))) (FP.i2d (own_len1 e_))) (own_bg r_))), .second, .unset, .unset, .unset, .unset, .unset, .unset] [(.long ((own_len1 e_).toInt64)), (.long ((own_C r_).toInt64)), (.long (((own_A w_).toInt64) * ((s_ &&& (2147483647 : Int32)).toInt64)))])) _
      refine XS.lmul X183.here hx rfl (hb hby at_124) rfl ?_
      show Steps p.tables e below (T179.setTop (mkF m 125 #[.val (.int w_), .val (.int mo), .val (.int e_), .val (.int s_), .val (.int r_), .val (.int p_), .val (.int (own_A w_)), .val (.int (own_C r_)), .val (.double (own_bg r_)), .second, .val (.int (own_len1 e_)), .val (.int (s_ &&& (2147483647 : Int32))), .val (.ref a157), .val (.double (FP.dadd (FP.ddiv (FP.dmul (own_W w_) (FP.i2d (s_ &&& (2147483647 : Int32)))) (FP.i2d (own_len1 e_))) (own_bg r_))), .second, .unset, .unset, .unset, .unset, .unset, .unset] [(.long (((own_C r_).toInt64) * ((own_len1 e_).toInt64))), (.long (((own_A w_).toInt64) * ((s_ &&& (2147483647 : Int32)).toInt64)))])) _
      refine XS.ladd X183.here hx rfl (hb hby at_125) rfl ?_
      show Steps p.tables e below (T179.setTop (mkF m 126 #[.val (.int w_), .val (.int mo), .val (.int e_), .val (.int s_), .val (.int r_), .val (.int p_), .val (.int (own_A w_)), .val (.int (own_C r_)), .val (.double (own_bg r_)), .second, .val (.int (own_len1 e_)), .val (.int (s_ &&& (2147483647 : Int32))), .val (.ref a157), .val (.double (FP.dadd (FP.ddiv (FP.dmul (own_W w_) (FP.i2d (s_ &&& (2147483647 : Int32)))) (FP.i2d (own_len1 e_))) (own_bg r_))), .second, .unset, .unset, .unset, .unset, .unset, .unset] [(.long ((((own_A w_).toInt64) * ((s_ &&& (2147483647 : Int32)).toInt64)) + (((own_C r_).toInt64) * ((own_len1 e_).toInt64))))])) _
      refine XS.lstore X183.here hx rfl (hb hby at_126) rfl (l' := #[.val (.int w_), .val (.int mo), .val (.int e_), .val (.int s_), .val (.int r_), .val (.int p_), .val (.int (own_A w_)), .val (.int (own_C r_)), .val (.double (own_bg r_)), .second, .val (.int (own_len1 e_)), .val (.int (s_ &&& (2147483647 : Int32))), .val (.ref a157), .val (.double (FP.dadd (FP.ddiv (FP.dmul (own_W w_) (FP.i2d (s_ &&& (2147483647 : Int32)))) (FP.i2d (own_len1 e_))) (own_bg r_))), .second, .val (.long ((((own_A w_).toInt64) * ((s_ &&& (2147483647 : Int32)).toInt64)) + (((own_C r_).toInt64) * ((own_len1 e_).toInt64)))), .second, .unset, .unset, .unset, .unset]) rfl ?_
      show Steps p.tables e below (T179.setTop (mkF m 128 #[.val (.int w_), .val (.int mo), .val (.int e_), .val (.int s_), .val (.int r_), .val (.int p_), .val (.int (own_A w_)), .val (.int (own_C r_)), .val (.double (own_bg r_)), .second, .val (.int (own_len1 e_)), .val (.int (s_ &&& (2147483647 : Int32))), .val (.ref a157), .val (.double (FP.dadd (FP.ddiv (FP.dmul (own_W w_) (FP.i2d (s_ &&& (2147483647 : Int32)))) (FP.i2d (own_len1 e_))) (own_bg r_))), .second, .val (.long ((((own_A w_).toInt64) * ((s_ &&& (2147483647 : Int32)).toInt64)) + (((own_C r_).toInt64) * ((own_len1 e_).toInt64)))), .second, .unset, .unset, .unset, .unset] [])) _
      refine X183.ldc2Long hx hown (mvT hZ (wT hw 24 rfl)) (g := (mkF m 128 #[.val (.int w_), .val (.int mo), .val (.int e_), .val (.int s_), .val (.int r_), .val (.int p_), .val (.int (own_A w_)), .val (.int (own_C r_)), .val (.double (own_bg r_)), .second, .val (.int (own_len1 e_)), .val (.int (s_ &&& (2147483647 : Int32))), .val (.ref a157), .val (.double (FP.dadd (FP.ddiv (FP.dmul (own_W w_) (FP.i2d (s_ &&& (2147483647 : Int32)))) (FP.i2d (own_len1 e_))) (own_bg r_))), .second, .val (.long ((((own_A w_).toInt64) * ((s_ &&& (2147483647 : Int32)).toInt64)) + (((own_C r_).toInt64) * ((own_len1 e_).toInt64)))), .second, .unset, .unset, .unset, .unset] [])) rfl (hb hby at_128) _ ?_
      show Steps p.tables e below (T179.setTop (mkF m 131 #[.val (.int w_), .val (.int mo), .val (.int e_), .val (.int s_), .val (.int r_), .val (.int p_), .val (.int (own_A w_)), .val (.int (own_C r_)), .val (.double (own_bg r_)), .second, .val (.int (own_len1 e_)), .val (.int (s_ &&& (2147483647 : Int32))), .val (.ref a157), .val (.double (FP.dadd (FP.ddiv (FP.dmul (own_W w_) (FP.i2d (s_ &&& (2147483647 : Int32)))) (FP.i2d (own_len1 e_))) (own_bg r_))), .second, .val (.long ((((own_A w_).toInt64) * ((s_ &&& (2147483647 : Int32)).toInt64)) + (((own_C r_).toInt64) * ((own_len1 e_).toInt64)))), .second, .unset, .unset, .unset, .unset] [(.long (8 : Int64))])) _
      refine XS.iload X183.here hx rfl (hb hby at_131) rfl ?_
      show Steps p.tables e below (T179.setTop (mkF m 133 #[.val (.int w_), .val (.int mo), .val (.int e_), .val (.int s_), .val (.int r_), .val (.int p_), .val (.int (own_A w_)), .val (.int (own_C r_)), .val (.double (own_bg r_)), .second, .val (.int (own_len1 e_)), .val (.int (s_ &&& (2147483647 : Int32))), .val (.ref a157), .val (.double (FP.dadd (FP.ddiv (FP.dmul (own_W w_) (FP.i2d (s_ &&& (2147483647 : Int32)))) (FP.i2d (own_len1 e_))) (own_bg r_))), .second, .val (.long ((((own_A w_).toInt64) * ((s_ &&& (2147483647 : Int32)).toInt64)) + (((own_C r_).toInt64) * ((own_len1 e_).toInt64)))), .second, .unset, .unset, .unset, .unset] [(.int (own_len1 e_)), (.long (8 : Int64))])) _
      refine XS.i2l X183.here hx rfl (hb hby at_133) rfl ?_
      show Steps p.tables e below (T179.setTop (mkF m 134 #[.val (.int w_), .val (.int mo), .val (.int e_), .val (.int s_), .val (.int r_), .val (.int p_), .val (.int (own_A w_)), .val (.int (own_C r_)), .val (.double (own_bg r_)), .second, .val (.int (own_len1 e_)), .val (.int (s_ &&& (2147483647 : Int32))), .val (.ref a157), .val (.double (FP.dadd (FP.ddiv (FP.dmul (own_W w_) (FP.i2d (s_ &&& (2147483647 : Int32)))) (FP.i2d (own_len1 e_))) (own_bg r_))), .second, .val (.long ((((own_A w_).toInt64) * ((s_ &&& (2147483647 : Int32)).toInt64)) + (((own_C r_).toInt64) * ((own_len1 e_).toInt64)))), .second, .unset, .unset, .unset, .unset] [(.long ((own_len1 e_).toInt64)), (.long (8 : Int64))])) _
      refine XS.lmul X183.here hx rfl (hb hby at_134) rfl ?_
      show Steps p.tables e below (T179.setTop (mkF m 135 #[.val (.int w_), .val (.int mo), .val (.int e_), .val (.int s_), .val (.int r_), .val (.int p_), .val (.int (own_A w_)), .val (.int (own_C r_)), .val (.double (own_bg r_)), .second, .val (.int (own_len1 e_)), .val (.int (s_ &&& (2147483647 : Int32))), .val (.ref a157), .val (.double (FP.dadd (FP.ddiv (FP.dmul (own_W w_) (FP.i2d (s_ &&& (2147483647 : Int32)))) (FP.i2d (own_len1 e_))) (own_bg r_))), .second, .val (.long ((((own_A w_).toInt64) * ((s_ &&& (2147483647 : Int32)).toInt64)) + (((own_C r_).toInt64) * ((own_len1 e_).toInt64)))), .second, .unset, .unset, .unset, .unset] [(.long ((8 : Int64) * ((own_len1 e_).toInt64)))])) _
      refine XS.lstore X183.here hx rfl (hb hby at_135) rfl (l' := #[.val (.int w_), .val (.int mo), .val (.int e_), .val (.int s_), .val (.int r_), .val (.int p_), .val (.int (own_A w_)), .val (.int (own_C r_)), .val (.double (own_bg r_)), .second, .val (.int (own_len1 e_)), .val (.int (s_ &&& (2147483647 : Int32))), .val (.ref a157), .val (.double (FP.dadd (FP.ddiv (FP.dmul (own_W w_) (FP.i2d (s_ &&& (2147483647 : Int32)))) (FP.i2d (own_len1 e_))) (own_bg r_))), .second, .val (.long ((((own_A w_).toInt64) * ((s_ &&& (2147483647 : Int32)).toInt64)) + (((own_C r_).toInt64) * ((own_len1 e_).toInt64)))), .second, .val (.long ((8 : Int64) * ((own_len1 e_).toInt64))), .second, .unset, .unset]) rfl ?_
      show Steps p.tables e below (T179.setTop (mkF m 137 #[.val (.int w_), .val (.int mo), .val (.int e_), .val (.int s_), .val (.int r_), .val (.int p_), .val (.int (own_A w_)), .val (.int (own_C r_)), .val (.double (own_bg r_)), .second, .val (.int (own_len1 e_)), .val (.int (s_ &&& (2147483647 : Int32))), .val (.ref a157), .val (.double (FP.dadd (FP.ddiv (FP.dmul (own_W w_) (FP.i2d (s_ &&& (2147483647 : Int32)))) (FP.i2d (own_len1 e_))) (own_bg r_))), .second, .val (.long ((((own_A w_).toInt64) * ((s_ &&& (2147483647 : Int32)).toInt64)) + (((own_C r_).toInt64) * ((own_len1 e_).toInt64)))), .second, .val (.long ((8 : Int64) * ((own_len1 e_).toInt64))), .second, .unset, .unset] [])) _
      refine XS.lload X183.here hx rfl (hb hby at_137) rfl ?_
      show Steps p.tables e below (T179.setTop (mkF m 139 #[.val (.int w_), .val (.int mo), .val (.int e_), .val (.int s_), .val (.int r_), .val (.int p_), .val (.int (own_A w_)), .val (.int (own_C r_)), .val (.double (own_bg r_)), .second, .val (.int (own_len1 e_)), .val (.int (s_ &&& (2147483647 : Int32))), .val (.ref a157), .val (.double (FP.dadd (FP.ddiv (FP.dmul (own_W w_) (FP.i2d (s_ &&& (2147483647 : Int32)))) (FP.i2d (own_len1 e_))) (own_bg r_))), .second, .val (.long ((((own_A w_).toInt64) * ((s_ &&& (2147483647 : Int32)).toInt64)) + (((own_C r_).toInt64) * ((own_len1 e_).toInt64)))), .second, .val (.long ((8 : Int64) * ((own_len1 e_).toInt64))), .second, .unset, .unset] [(.long ((((own_A w_).toInt64) * ((s_ &&& (2147483647 : Int32)).toInt64)) + (((own_C r_).toInt64) * ((own_len1 e_).toInt64))))])) _
      refine XS.l2dS X183.here hx rfl (hb hby at_139) rfl rfl ?_
      show Steps p.tables e below (T179.setTop (mkF m 140 #[.val (.int w_), .val (.int mo), .val (.int e_), .val (.int s_), .val (.int r_), .val (.int p_), .val (.int (own_A w_)), .val (.int (own_C r_)), .val (.double (own_bg r_)), .second, .val (.int (own_len1 e_)), .val (.int (s_ &&& (2147483647 : Int32))), .val (.ref a157), .val (.double (FP.dadd (FP.ddiv (FP.dmul (own_W w_) (FP.i2d (s_ &&& (2147483647 : Int32)))) (FP.i2d (own_len1 e_))) (own_bg r_))), .second, .val (.long ((((own_A w_).toInt64) * ((s_ &&& (2147483647 : Int32)).toInt64)) + (((own_C r_).toInt64) * ((own_len1 e_).toInt64)))), .second, .val (.long ((8 : Int64) * ((own_len1 e_).toInt64))), .second, .unset, .unset] [(.double (FP.l2d ((((own_A w_).toInt64) * ((s_ &&& (2147483647 : Int32)).toInt64)) + (((own_C r_).toInt64) * ((own_len1 e_).toInt64)))))])) _
      refine XS.lload X183.here hx rfl (hb hby at_140) rfl ?_
      show Steps p.tables e below (T179.setTop (mkF m 142 #[.val (.int w_), .val (.int mo), .val (.int e_), .val (.int s_), .val (.int r_), .val (.int p_), .val (.int (own_A w_)), .val (.int (own_C r_)), .val (.double (own_bg r_)), .second, .val (.int (own_len1 e_)), .val (.int (s_ &&& (2147483647 : Int32))), .val (.ref a157), .val (.double (FP.dadd (FP.ddiv (FP.dmul (own_W w_) (FP.i2d (s_ &&& (2147483647 : Int32)))) (FP.i2d (own_len1 e_))) (own_bg r_))), .second, .val (.long ((((own_A w_).toInt64) * ((s_ &&& (2147483647 : Int32)).toInt64)) + (((own_C r_).toInt64) * ((own_len1 e_).toInt64)))), .second, .val (.long ((8 : Int64) * ((own_len1 e_).toInt64))), .second, .unset, .unset] [(.long ((8 : Int64) * ((own_len1 e_).toInt64))), (.double (FP.l2d ((((own_A w_).toInt64) * ((s_ &&& (2147483647 : Int32)).toInt64)) + (((own_C r_).toInt64) * ((own_len1 e_).toInt64)))))])) _
      refine XS.l2dS X183.here hx rfl (hb hby at_142) rfl rfl ?_
      show Steps p.tables e below (T179.setTop (mkF m 143 #[.val (.int w_), .val (.int mo), .val (.int e_), .val (.int s_), .val (.int r_), .val (.int p_), .val (.int (own_A w_)), .val (.int (own_C r_)), .val (.double (own_bg r_)), .second, .val (.int (own_len1 e_)), .val (.int (s_ &&& (2147483647 : Int32))), .val (.ref a157), .val (.double (FP.dadd (FP.ddiv (FP.dmul (own_W w_) (FP.i2d (s_ &&& (2147483647 : Int32)))) (FP.i2d (own_len1 e_))) (own_bg r_))), .second, .val (.long ((((own_A w_).toInt64) * ((s_ &&& (2147483647 : Int32)).toInt64)) + (((own_C r_).toInt64) * ((own_len1 e_).toInt64)))), .second, .val (.long ((8 : Int64) * ((own_len1 e_).toInt64))), .second, .unset, .unset] [(.double (FP.l2d ((8 : Int64) * ((own_len1 e_).toInt64)))), (.double (FP.l2d ((((own_A w_).toInt64) * ((s_ &&& (2147483647 : Int32)).toInt64)) + (((own_C r_).toInt64) * ((own_len1 e_).toInt64)))))])) _
      refine XS.ddivS X183.here hx rfl (hb hby at_143) rfl (own_no4 _ _ _ _ (own_ok1 w_ r_ e_ s_)) rfl ?_
      show Steps p.tables e below (T179.setTop (mkF m 144 #[.val (.int w_), .val (.int mo), .val (.int e_), .val (.int s_), .val (.int r_), .val (.int p_), .val (.int (own_A w_)), .val (.int (own_C r_)), .val (.double (own_bg r_)), .second, .val (.int (own_len1 e_)), .val (.int (s_ &&& (2147483647 : Int32))), .val (.ref a157), .val (.double (FP.dadd (FP.ddiv (FP.dmul (own_W w_) (FP.i2d (s_ &&& (2147483647 : Int32)))) (FP.i2d (own_len1 e_))) (own_bg r_))), .second, .val (.long ((((own_A w_).toInt64) * ((s_ &&& (2147483647 : Int32)).toInt64)) + (((own_C r_).toInt64) * ((own_len1 e_).toInt64)))), .second, .val (.long ((8 : Int64) * ((own_len1 e_).toInt64))), .second, .unset, .unset] [(.double (FP.ddiv (FP.l2d ((((own_A w_).toInt64) * ((s_ &&& (2147483647 : Int32)).toInt64)) + (((own_C r_).toInt64) * ((own_len1 e_).toInt64)))) (FP.l2d ((8 : Int64) * ((own_len1 e_).toInt64)))))])) _
      refine XS.dstore X183.here hx rfl (hb hby at_144) rfl (l' := #[.val (.int w_), .val (.int mo), .val (.int e_), .val (.int s_), .val (.int r_), .val (.int p_), .val (.int (own_A w_)), .val (.int (own_C r_)), .val (.double (own_bg r_)), .second, .val (.int (own_len1 e_)), .val (.int (s_ &&& (2147483647 : Int32))), .val (.ref a157), .val (.double (FP.dadd (FP.ddiv (FP.dmul (own_W w_) (FP.i2d (s_ &&& (2147483647 : Int32)))) (FP.i2d (own_len1 e_))) (own_bg r_))), .second, .val (.long ((((own_A w_).toInt64) * ((s_ &&& (2147483647 : Int32)).toInt64)) + (((own_C r_).toInt64) * ((own_len1 e_).toInt64)))), .second, .val (.long ((8 : Int64) * ((own_len1 e_).toInt64))), .second, .val (.double (FP.ddiv (FP.l2d ((((own_A w_).toInt64) * ((s_ &&& (2147483647 : Int32)).toInt64)) + (((own_C r_).toInt64) * ((own_len1 e_).toInt64)))) (FP.l2d ((8 : Int64) * ((own_len1 e_).toInt64))))), .second]) rfl ?_
      show Steps p.tables e below (T179.setTop (mkF m 146 #[.val (.int w_), .val (.int mo), .val (.int e_), .val (.int s_), .val (.int r_), .val (.int p_), .val (.int (own_A w_)), .val (.int (own_C r_)), .val (.double (own_bg r_)), .second, .val (.int (own_len1 e_)), .val (.int (s_ &&& (2147483647 : Int32))), .val (.ref a157), .val (.double (FP.dadd (FP.ddiv (FP.dmul (own_W w_) (FP.i2d (s_ &&& (2147483647 : Int32)))) (FP.i2d (own_len1 e_))) (own_bg r_))), .second, .val (.long ((((own_A w_).toInt64) * ((s_ &&& (2147483647 : Int32)).toInt64)) + (((own_C r_).toInt64) * ((own_len1 e_).toInt64)))), .second, .val (.long ((8 : Int64) * ((own_len1 e_).toInt64))), .second, .val (.double (FP.ddiv (FP.l2d ((((own_A w_).toInt64) * ((s_ &&& (2147483647 : Int32)).toInt64)) + (((own_C r_).toInt64) * ((own_len1 e_).toInt64)))) (FP.l2d ((8 : Int64) * ((own_len1 e_).toInt64))))), .second] [])) _
      refine XS.dload X183.here hx rfl (hb hby at_146) rfl ?_
      show Steps p.tables e below (T179.setTop (mkF m 148 #[.val (.int w_), .val (.int mo), .val (.int e_), .val (.int s_), .val (.int r_), .val (.int p_), .val (.int (own_A w_)), .val (.int (own_C r_)), .val (.double (own_bg r_)), .second, .val (.int (own_len1 e_)), .val (.int (s_ &&& (2147483647 : Int32))), .val (.ref a157), .val (.double (FP.dadd (FP.ddiv (FP.dmul (own_W w_) (FP.i2d (s_ &&& (2147483647 : Int32)))) (FP.i2d (own_len1 e_))) (own_bg r_))), .second, .val (.long ((((own_A w_).toInt64) * ((s_ &&& (2147483647 : Int32)).toInt64)) + (((own_C r_).toInt64) * ((own_len1 e_).toInt64)))), .second, .val (.long ((8 : Int64) * ((own_len1 e_).toInt64))), .second, .val (.double (FP.ddiv (FP.l2d ((((own_A w_).toInt64) * ((s_ &&& (2147483647 : Int32)).toInt64)) + (((own_C r_).toInt64) * ((own_len1 e_).toInt64)))) (FP.l2d ((8 : Int64) * ((own_len1 e_).toInt64))))), .second] [(.double (FP.dadd (FP.ddiv (FP.dmul (own_W w_) (FP.i2d (s_ &&& (2147483647 : Int32)))) (FP.i2d (own_len1 e_))) (own_bg r_)))])) _
      refine XS.dload X183.here hx rfl (hb hby at_148) rfl ?_
      show Steps p.tables e below (T179.setTop (mkF m 150 #[.val (.int w_), .val (.int mo), .val (.int e_), .val (.int s_), .val (.int r_), .val (.int p_), .val (.int (own_A w_)), .val (.int (own_C r_)), .val (.double (own_bg r_)), .second, .val (.int (own_len1 e_)), .val (.int (s_ &&& (2147483647 : Int32))), .val (.ref a157), .val (.double (FP.dadd (FP.ddiv (FP.dmul (own_W w_) (FP.i2d (s_ &&& (2147483647 : Int32)))) (FP.i2d (own_len1 e_))) (own_bg r_))), .second, .val (.long ((((own_A w_).toInt64) * ((s_ &&& (2147483647 : Int32)).toInt64)) + (((own_C r_).toInt64) * ((own_len1 e_).toInt64)))), .second, .val (.long ((8 : Int64) * ((own_len1 e_).toInt64))), .second, .val (.double (FP.ddiv (FP.l2d ((((own_A w_).toInt64) * ((s_ &&& (2147483647 : Int32)).toInt64)) + (((own_C r_).toInt64) * ((own_len1 e_).toInt64)))) (FP.l2d ((8 : Int64) * ((own_len1 e_).toInt64))))), .second] [(.double (FP.ddiv (FP.l2d ((((own_A w_).toInt64) * ((s_ &&& (2147483647 : Int32)).toInt64)) + (((own_C r_).toInt64) * ((own_len1 e_).toInt64)))) (FP.l2d ((8 : Int64) * ((own_len1 e_).toInt64))))), (.double (FP.dadd (FP.ddiv (FP.dmul (own_W w_) (FP.i2d (s_ &&& (2147483647 : Int32)))) (FP.i2d (own_len1 e_))) (own_bg r_)))])) _
      refine XS.dcmpS X183.here hx rfl (hb hby at_150) rfl (own_fin _ _ _ _ (own_ok1 w_ r_ e_ s_)) ?_
      show Steps p.tables e below (T179.setTop (mkF m 151 #[.val (.int w_), .val (.int mo), .val (.int e_), .val (.int s_), .val (.int r_), .val (.int p_), .val (.int (own_A w_)), .val (.int (own_C r_)), .val (.double (own_bg r_)), .second, .val (.int (own_len1 e_)), .val (.int (s_ &&& (2147483647 : Int32))), .val (.ref a157), .val (.double (FP.dadd (FP.ddiv (FP.dmul (own_W w_) (FP.i2d (s_ &&& (2147483647 : Int32)))) (FP.i2d (own_len1 e_))) (own_bg r_))), .second, .val (.long ((((own_A w_).toInt64) * ((s_ &&& (2147483647 : Int32)).toInt64)) + (((own_C r_).toInt64) * ((own_len1 e_).toInt64)))), .second, .val (.long ((8 : Int64) * ((own_len1 e_).toInt64))), .second, .val (.double (FP.ddiv (FP.l2d ((((own_A w_).toInt64) * ((s_ &&& (2147483647 : Int32)).toInt64)) + (((own_C r_).toInt64) * ((own_len1 e_).toInt64)))) (FP.l2d ((8 : Int64) * ((own_len1 e_).toInt64))))), .second] [(.int (0 : Int32))])) _
      refine XS.ifNo X183.here hx rfl (hb hby at_151) rfl (by decide) ?_
      show Steps p.tables e below (T179.setTop (mkF m 154 #[.val (.int w_), .val (.int mo), .val (.int e_), .val (.int s_), .val (.int r_), .val (.int p_), .val (.int (own_A w_)), .val (.int (own_C r_)), .val (.double (own_bg r_)), .second, .val (.int (own_len1 e_)), .val (.int (s_ &&& (2147483647 : Int32))), .val (.ref a157), .val (.double (FP.dadd (FP.ddiv (FP.dmul (own_W w_) (FP.i2d (s_ &&& (2147483647 : Int32)))) (FP.i2d (own_len1 e_))) (own_bg r_))), .second, .val (.long ((((own_A w_).toInt64) * ((s_ &&& (2147483647 : Int32)).toInt64)) + (((own_C r_).toInt64) * ((own_len1 e_).toInt64)))), .second, .val (.long ((8 : Int64) * ((own_len1 e_).toInt64))), .second, .val (.double (FP.ddiv (FP.l2d ((((own_A w_).toInt64) * ((s_ &&& (2147483647 : Int32)).toInt64)) + (((own_C r_).toInt64) * ((own_len1 e_).toInt64)))) (FP.l2d ((8 : Int64) * ((own_len1 e_).toInt64))))), .second] [])) _
      refine XS.iconst X183.here hx rfl (hb hby at_154) ?_
      show Steps p.tables e below (T179.setTop (mkF m 155 #[.val (.int w_), .val (.int mo), .val (.int e_), .val (.int s_), .val (.int r_), .val (.int p_), .val (.int (own_A w_)), .val (.int (own_C r_)), .val (.double (own_bg r_)), .second, .val (.int (own_len1 e_)), .val (.int (s_ &&& (2147483647 : Int32))), .val (.ref a157), .val (.double (FP.dadd (FP.ddiv (FP.dmul (own_W w_) (FP.i2d (s_ &&& (2147483647 : Int32)))) (FP.i2d (own_len1 e_))) (own_bg r_))), .second, .val (.long ((((own_A w_).toInt64) * ((s_ &&& (2147483647 : Int32)).toInt64)) + (((own_C r_).toInt64) * ((own_len1 e_).toInt64)))), .second, .val (.long ((8 : Int64) * ((own_len1 e_).toInt64))), .second, .val (.double (FP.ddiv (FP.l2d ((((own_A w_).toInt64) * ((s_ &&& (2147483647 : Int32)).toInt64)) + (((own_C r_).toInt64) * ((own_len1 e_).toInt64)))) (FP.l2d ((8 : Int64) * ((own_len1 e_).toInt64))))), .second] [(.int (1 : Int32))])) _
      refine XS.goto X183.here hx rfl (pc0 := 155) (pc' := 159) rfl (hb hby at_155) (by decide) (by decide) ?_
      show Steps p.tables e below (T179.setTop (mkF m 159 #[.val (.int w_), .val (.int mo), .val (.int e_), .val (.int s_), .val (.int r_), .val (.int p_), .val (.int (own_A w_)), .val (.int (own_C r_)), .val (.double (own_bg r_)), .second, .val (.int (own_len1 e_)), .val (.int (s_ &&& (2147483647 : Int32))), .val (.ref a157), .val (.double (FP.dadd (FP.ddiv (FP.dmul (own_W w_) (FP.i2d (s_ &&& (2147483647 : Int32)))) (FP.i2d (own_len1 e_))) (own_bg r_))), .second, .val (.long ((((own_A w_).toInt64) * ((s_ &&& (2147483647 : Int32)).toInt64)) + (((own_C r_).toInt64) * ((own_len1 e_).toInt64)))), .second, .val (.long ((8 : Int64) * ((own_len1 e_).toInt64))), .second, .val (.double (FP.ddiv (FP.l2d ((((own_A w_).toInt64) * ((s_ &&& (2147483647 : Int32)).toInt64)) + (((own_C r_).toInt64) * ((own_len1 e_).toInt64)))) (FP.l2d ((8 : Int64) * ((own_len1 e_).toInt64))))), .second] [(.int (1 : Int32))])) _
      exact hh)
    obtain ⟨fs, hr, hrun, hended, hW, hsame⟩ := X183.leave (v := some (.int (1 : Int32))) (fun h => by rw [Bd.returns] at h; cases h)
    refine ⟨_, _, k36 _ (retN X183 hx (t := .boolean) Bd.returns (by simp) (hb hby at_159) hr), hrun, hended, _, _, rfl, ?_, ⟨_, rfl⟩, hW, hsame.mono (by decide) (by decide)⟩
    show QL h0 n0 _ T179.heap _
    rw [e196]
    exact ⟨rfl, N197⟩
set_option maxRecDepth 65536 in
set_option maxHeartbeats 40000000 in
theorem comes_1 {Post : Tables → Env → Array Value → State → Outcome → State → Prop} (hpost : ∀ tb e args s v u, (limb_1_1.after args s (.returned v) u = true ∧ limb_1_2.after args s (.returned v) u = true ∧ True) → FrameEnd s (.returned v) u (Jvm.fieldLocs frame_1_writes args s ++ Jvm.arrayLocs frame_1_arrays args s ++ Jvm.staticLocs frame_1_statics s) 16 128 → Post tb e args s (.returned v) u) :
    ArmFor flags0 classFile x code maxLocals ret World_1 tables_1 room_1 Calls_1 rest_1 Pre_1 Post := by
  intro l hfl _ _ p e ha hc hk s m args below hf hA hF happ hP
  obtain ⟨hcalls, hrest, hpre⟩ := hP
  obtain ⟨-, -, -, hnamed, -, -, -, hat⟩ := (Spec.applies_iff hf).mp happ
  obtain ⟨hg, hn⟩ := and_e (Cond.before_iff.mp (show (Jvm.Cond.and given_1 narrow_1).before args s = true from hpre))
  obtain ⟨h1, g0⟩ := and_e hg
  obtain ⟨j0, g1⟩ := and_e g0
  obtain ⟨j1, g2⟩ := and_e g1
  obtain ⟨j2, g3⟩ := and_e g2
  obtain ⟨j3, g4⟩ := and_e g3
  obtain ⟨j4, g5⟩ := and_e g4
  have j5 := g5
  obtain ⟨w0, w1, w2, w3, w4, w5, rfl⟩ : ∃ w0 w1 w2 w3 w4 w5 : Value, args = #[w0, w1, w2, w3, w4, w5] := by
    have hs : args.size = 6 := by simpa [Cond.value, given_1] using h1
    obtain ⟨L⟩ := args
    match L, hs with
    | [w0, w1, w2, w3, w4, w5], _ => exact ⟨w0, w1, w2, w3, w4, w5, rfl⟩
  have hw := fun d (hd : d ∈ tables_1) => atoms_spec (ws := Jvm.Cond.code x code maxLocals ret :: tables_1) hat d (List.mem_cons_of_mem _ hd)
  have hfit : Fit s := fun {y c} hc i hi => by
    obtain ⟨ha, rfl⟩ := Array.getElem?_eq_some_iff.mp hc
    have q := List.all_eq_true.mp ((Array.all_eq_true_iff_forall_mem.mp hF) _ (Array.getElem_mem ha)) i (List.mem_range.mpr hi)
    simpa [Array.getElem?_eq_getElem hi] using q
  obtain ⟨i0, q0⟩ := is_v j0
  obtain rfl : w0 = (.int i0) := Option.some.inj q0
  obtain ⟨i1, q1⟩ := is_v j1
  obtain rfl : w1 = (.int i1) := Option.some.inj q1
  obtain ⟨i2, q2⟩ := is_v j2
  obtain rfl : w2 = (.int i2) := Option.some.inj q2
  obtain ⟨i3, q3⟩ := is_v j3
  obtain rfl : w3 = (.int i3) := Option.some.inj q3
  obtain ⟨i4, q4⟩ := is_v j4
  obtain rfl : w4 = (.int i4) := Option.some.inj q4
  obtain ⟨i5, q5⟩ := is_v j5
  obtain rfl : w5 = (.int i5) := Option.some.inj q5
  obtain ⟨n, o, h1, h2, h3, _, L, rfl, ⟨rfl, N⟩, hq⟩ := rmL l s _ hw tables_1 i0 i1 i2 i3 i4 i5 s.heap s.heap.size (Nat.le_refl _)  p e ha hc hk s m _ below hf ((Spec.applies_iff_loose hf).mp happ).1 ⟨rfl, State.Warmed39.refl s, rfl⟩ trivial
  refine ⟨n, _, h1, h2, h3, hpost _ _ _ _ _ _ ⟨Cond.after_iff.mpr rfl, Cond.after_iff.mpr (eq_i res_at (Term.int_eval (1)) rfl), trivial⟩ ⟨hq.1, hq.2.1, (hq.2.2.sift fun y hy => Or.inr (N y hy)).mono (by decide) (by decide)⟩⟩
theorem main_1_1 : Claimed_1_1 := comes_1 fun _ _ _ _ _ _ h hF => ⟨h.1, hF⟩
theorem main_1_2 : Claimed_1_2 := comes_1 fun _ _ _ _ _ _ h hF => ⟨h.2.1, hF⟩
end Jvm.Pilot.@@N@@
namespace Jvm.Pilot.@@N@@
open Jvm Jvm.ClassFile Sem Op Lib Jvm.Free Jvm.Stand Jvm.Pilot.@@N@@.Jvm.D
/-! MADE BY PROGRAM (witnessworld.py) out of the Statement's table words and the real class files: 12 classes; the members and pool entries that the words name. The judged class is class 1, her method 1. -/
namespace start1
open Jvm.ClassFile
def u (s : String) : CpInfo := .utf8 (stringToUtf16 s)
/-- a pool by its gaps: so many unusable entries, then the entry; so many at the end -/
def gap : Nat → List CpInfo → List CpInfo
  | 0, r => r
  | n + 1, r => .unusable :: gap n r
def poolList (es : List (Nat × CpInfo)) (last : Nat) : List CpInfo := es.foldr (fun e r => gap e.1 (e.2 :: r)) (gap last [])
def pool (es : List (Nat × CpInfo)) (last : Nat) : Array CpInfo := ⟨poolList es last⟩
def fileOf (pool : Array CpInfo) (this : Nat) (attrs : Array Attribute := #[]) (ms : Array MethodInfo := #[]) (fl : Nat := 33) (sup : Nat := 0) (ifs : Array Nat := #[]) (fds : Array FieldInfo := #[]) : ClassFile where
  minorVersion := 0
  majorVersion := 65
  constantPool := pool
  accessFlags := fl
  thisClass := this
  superClass := sup
  interfaces := ifs
  fields := fds
  methods := ms
  attributes := attrs
def plain (name : String) (sup : Option ClassId) : Class where
  name := name
  kind := .ordinary
  loader := none
  accessFlags := 33
  super := sup
  interfaces := #[]
  cf := none
  fields := #[]
  methods := #[]
  instanceTypes := #[]
  staticTypes := #[]
  resolved := #[]
  callSites := []
  init := .initialized
  statics := none
  mirror := none

def pool0 : Array CpInfo := pool [(5, u "<init>"), (0, u "()V"), (1, .class_ 10), (1, u "java/lang/Object")] 113

def k0c0 : Code := { maxStack := 0, maxLocals := 1, code := object_method_1_code, exceptionTable := #[], attributes := #[] }
def k0m0 : Method := { name := "<init>", desc := "()V", sig := { parameters := [], returnType := none }, accessFlags := 1, code := some k0c0 }
/-- java/lang/Object -/
def k0 : Class := { plain "java/lang/Object" none with
  accessFlags := 33
  interfaces := #[]
  cf := some (fileOf pool0 8 #[] #[{ accessFlags := 1, nameIndex := 5, descriptorIndex := 6, attributes := #[] }] 33 0 #[] #[])
  fields := #[]
  methods := #[k0m0]
  instanceTypes := #[]
  staticTypes := #[]
  resolved := Array.replicate 124 none
  statics := none }

def pool1 : Array CpInfo := pool [(2, .class_ 4), (1, u "java/lang/Object"), (0, u "<init>"), (0, u "()V"), (0, .integer 2147483647), (0, .integer 1048575), (0, .double 4620693217682128896), (1, .methodref 12 13), (0, .class_ 14), (0, .nameAndType 15 16), (0, u "java/lang/Math"), (0, u "max"), (0, u "(II)I"), (0, .class_ 18), (0, u "com/example/geirfa/geirfa/retrieval/Smoothing$JelinekMercer"), (0, .methodref 17 20), (0, .nameAndType 5 21), (0, u "(D)V"), (0, .methodref 17 23), (0, .nameAndType 24 25), (0, u "probability"), (0, u "(IID)D"), (0, .long 8), (1, .class_ 29), (0, u "com/example/geirfa/geirfa/retrieval/JelinekMercerProbabilityPinLaw"), (2, u "law"), (0, u "(IIIIII)Z")] 7

def k1m0 : Method := { name := "<init>", desc := "()V", sig := { parameters := [], returnType := none }, accessFlags := 1, code := none }
def k1c1 : Code := { maxStack := 6, maxLocals := 21, code := code, exceptionTable := #[], attributes := #[] }
def k1m1 : Method := { name := "law", desc := "(IIIIII)Z", sig := { parameters := [.int, .int, .int, .int, .int, .int], returnType := some .boolean }, accessFlags := 9, code := some k1c1 }
/-- com/example/geirfa/geirfa/retrieval/JelinekMercerProbabilityPinLaw -/
def k1 : Class := { plain "com/example/geirfa/geirfa/retrieval/JelinekMercerProbabilityPinLaw" (some 0) with
  accessFlags := 49
  interfaces := #[]
  cf := some (fileOf pool1 28 #[] #[{ accessFlags := 1, nameIndex := 5, descriptorIndex := 6, attributes := #[] }, { accessFlags := 9, nameIndex := 32, descriptorIndex := 33, attributes := #[] }] 49 2 #[] #[])
  fields := #[]
  methods := #[k1m0, k1m1]
  instanceTypes := #[]
  staticTypes := #[]
  resolved := Array.replicate 41 none
  statics := none }

def pool2 : Array CpInfo := pool [(1, .methodref 2 3), (0, .class_ 4), (0, .nameAndType 5 6), (0, u "java/lang/Object"), (0, u "<init>"), (0, u "()V"), (0, .class_ 8), (0, u "java/lang/Record")] 13

def k2c0 : Code := { maxStack := 1, maxLocals := 1, code := jdk_30_method_1_code, exceptionTable := #[], attributes := #[] }
def k2m0 : Method := { name := "<init>", desc := "()V", sig := { parameters := [], returnType := none }, accessFlags := 4, code := some k2c0 }
/-- java/lang/Record -/
def k2 : Class := { plain "java/lang/Record" (some 0) with
  accessFlags := 1057
  interfaces := #[]
  cf := some (fileOf pool2 7 #[] #[{ accessFlags := 4, nameIndex := 5, descriptorIndex := 6, attributes := #[] }] 1057 2 #[] #[])
  fields := #[]
  methods := #[k2m0]
  instanceTypes := #[]
  staticTypes := #[]
  resolved := Array.replicate 22 none
  statics := none }

def pool3 : Array CpInfo := pool [(1, .class_ 2), (0, u "com/example/geirfa/geirfa/retrieval/Smoothing"), (0, .class_ 4), (0, u "java/lang/Object"), (7, .class_ 13), (0, u "com/example/geirfa/geirfa/retrieval/Smoothing$JelinekMercer"), (0, .class_ 15), (0, u "com/example/geirfa/geirfa/retrieval/Smoothing$Dirichlet")] 4

/-- com/example/geirfa/geirfa/retrieval/Smoothing -/
def k3 : Class := { plain "com/example/geirfa/geirfa/retrieval/Smoothing" (some 0) with
  accessFlags := 1537
  interfaces := #[]
  cf := some (fileOf pool3 1 #[.nestMembers #[12, 14]] #[] 1537 3 #[] #[])
  fields := #[]
  methods := #[]
  instanceTypes := #[]
  staticTypes := #[]
  resolved := Array.replicate 20 none
  statics := none }

def pool4 : Array CpInfo := pool [(1, .methodref 2 3), (0, .class_ 4), (0, .nameAndType 5 6), (0, u "java/lang/Record"), (0, u "<init>"), (0, u "()V"), (9, .fieldref 17 18), (0, .class_ 19), (0, .nameAndType 20 21), (0, u "com/example/geirfa/geirfa/retrieval/Smoothing$JelinekMercer"), (0, u "documentWeight"), (0, u "D"), (12, .class_ 35), (0, u "com/example/geirfa/geirfa/retrieval/Smoothing"), (0, u "(D)V"), (6, u "probability"), (0, u "(IID)D")] 33

def k4c0 : Code := { maxStack := 4, maxLocals := 3, code := prog_29_method_1_code, exceptionTable := #[], attributes := #[] }
def k4m0 : Method := { name := "<init>", desc := "(D)V", sig := { parameters := [.double], returnType := none }, accessFlags := 1, code := some k4c0 }
def k4c1 : Code := { maxStack := 4, maxLocals := 5, code := prog_29_method_3_code, exceptionTable := #[], attributes := #[] }
def k4m1 : Method := { name := "probability", desc := "(IID)D", sig := { parameters := [.int, .int, .double], returnType := some .double }, accessFlags := 1, code := some k4c1 }
/-- com/example/geirfa/geirfa/retrieval/Smoothing$JelinekMercer -/
def k4 : Class := { plain "com/example/geirfa/geirfa/retrieval/Smoothing$JelinekMercer" (some 2) with
  accessFlags := 49
  interfaces := #[3]
  cf := some (fileOf pool4 17 #[.nestHost 34] #[{ accessFlags := 1, nameIndex := 5, descriptorIndex := 36, attributes := #[] }, { accessFlags := 1, nameIndex := 43, descriptorIndex := 44, attributes := #[] }] 49 2 #[34] #[{ accessFlags := 18, nameIndex := 20, descriptorIndex := 21, attributes := #[] }])
  fields := #[{ name := "documentWeight", type := .double, accessFlags := 18, slot := 0, constantValue := 0 }]
  methods := #[k4m0, k4m1]
  instanceTypes := #[.double]
  staticTypes := #[]
  resolved := Array.replicate 78 none
  statics := none }

def pool5 : Array CpInfo := pool [(1, .class_ 2), (0, u "java/lang/Math"), (1, .class_ 6), (1, u "java/lang/Object"), (0, u "<init>"), (0, u "()V"), (89, .class_ 100), (1, u "java/lang/Math$RandomNumberGeneratorHolder"), (71, u "negativeZeroFloatBits"), (0, u "J"), (2, u "negativeZeroDoubleBits"), (21, u "max"), (46, u "$assertionsDisabled"), (0, u "Z"), (88, u "(II)I"), (2, u "twoToTheDoubleScaleDown"), (0, u "D"), (4, u "twoToTheDoubleScaleUp"), (9, u "E"), (3, u "PI"), (2, u "TAU"), (2, u "DEGREES_TO_RADIANS"), (0, u "RADIANS_TO_DEGREES")] 94

def k5m0 : Method := { name := "<init>", desc := "()V", sig := { parameters := [], returnType := none }, accessFlags := 2, code := none }
def k5c1 : Code := { maxStack := 2, maxLocals := 2, code := jdk_29_method_65_code, exceptionTable := #[], attributes := #[] }
def k5m1 : Method := { name := "max", desc := "(II)I", sig := { parameters := [.int, .int], returnType := some .int }, accessFlags := 9, code := some k5c1 }
/-- java/lang/Math -/
def k5 : Class := { plain "java/lang/Math" (some 0) with
  accessFlags := 49
  interfaces := #[]
  cf := some (fileOf pool5 1 #[.nestMembers #[98]] #[{ accessFlags := 2, nameIndex := 7, descriptorIndex := 8, attributes := #[] }, { accessFlags := 9, nameIndex := 198, descriptorIndex := 335, attributes := #[] }] 49 4 #[] #[{ accessFlags := 25, nameIndex := 354, descriptorIndex := 339, attributes := #[] }, { accessFlags := 25, nameIndex := 358, descriptorIndex := 339, attributes := #[] }, { accessFlags := 25, nameIndex := 361, descriptorIndex := 339, attributes := #[] }, { accessFlags := 26, nameIndex := 364, descriptorIndex := 339, attributes := #[] }, { accessFlags := 26, nameIndex := 365, descriptorIndex := 339, attributes := #[] }, { accessFlags := 26, nameIndex := 172, descriptorIndex := 173, attributes := #[] }, { accessFlags := 26, nameIndex := 176, descriptorIndex := 173, attributes := #[] }, { accessFlags := 8, nameIndex := 344, descriptorIndex := 339, attributes := #[] }, { accessFlags := 8, nameIndex := 338, descriptorIndex := 339, attributes := #[] }, { accessFlags := 4120, nameIndex := 245, descriptorIndex := 246, attributes := #[] }])
  fields := #[{ name := "E", type := .double, accessFlags := 25, slot := 0, constantValue := 0 }, { name := "PI", type := .double, accessFlags := 25, slot := 1, constantValue := 0 }, { name := "TAU", type := .double, accessFlags := 25, slot := 2, constantValue := 0 }, { name := "DEGREES_TO_RADIANS", type := .double, accessFlags := 26, slot := 3, constantValue := 0 }, { name := "RADIANS_TO_DEGREES", type := .double, accessFlags := 26, slot := 4, constantValue := 0 }, { name := "negativeZeroFloatBits", type := .long, accessFlags := 26, slot := 5, constantValue := 0 }, { name := "negativeZeroDoubleBits", type := .long, accessFlags := 26, slot := 6, constantValue := 0 }, { name := "twoToTheDoubleScaleUp", type := .double, accessFlags := 8, slot := 7, constantValue := 0 }, { name := "twoToTheDoubleScaleDown", type := .double, accessFlags := 8, slot := 8, constantValue := 0 }, { name := "$assertionsDisabled", type := .boolean, accessFlags := 4120, slot := 9, constantValue := 0 }]
  methods := #[k5m0, k5m1]
  instanceTypes := #[]
  staticTypes := #[.double, .double, .double, .double, .double, .long, .long, .double, .double, .boolean]
  resolved := Array.replicate 460 none
  statics := none }

def pool6 : Array CpInfo := pool [(1, u "java/lang/Cloneable"), (0, .class_ 1), (0, u "java/lang/Object"), (0, .class_ 3)] 3

/-- java/lang/Cloneable -/
def k6 : Class := { plain "java/lang/Cloneable" (some 0) with
  accessFlags := 1537
  interfaces := #[]
  cf := some (fileOf pool6 2 #[] #[] 1537 4 #[] #[])
  fields := #[]
  methods := #[]
  instanceTypes := #[]
  staticTypes := #[]
  resolved := Array.replicate 8 none
  statics := none }

def pool7 : Array CpInfo := pool [(1, u "java/io/Serializable"), (0, .class_ 1), (0, u "java/lang/Object"), (0, .class_ 3)] 3

/-- java/io/Serializable -/
def k7 : Class := { plain "java/io/Serializable" (some 0) with
  accessFlags := 1537
  interfaces := #[]
  cf := some (fileOf pool7 2 #[] #[] 1537 4 #[] #[])
  fields := #[]
  methods := #[]
  instanceTypes := #[]
  staticTypes := #[]
  resolved := Array.replicate 8 none
  statics := none }

/-- the primitive byte -/
def k8 : Class := { plain "byte" none with kind := .primitive 'B', accessFlags := 0x411 }
/-- [B -/
def k9 : Class := { plain "[B" (some 0) with kind := .array 8 .byte, interfaces := #[6, 7], accessFlags := 1041 }

/-- the primitive int -/
def k10 : Class := { plain "int" none with kind := .primitive 'I', accessFlags := 0x411 }
/-- [I -/
def k11 : Class := { plain "[I" (some 0) with kind := .array 10 .int, interfaces := #[6, 7], accessFlags := 1041 }

def heap : Heap := #[]
def classes : Array Class := #[k0, k1, k2, k3, k4, k5, k6, k7, k8, k9, k10, k11]
def interned : List (Array UInt16 × Addr) := []
def slotsUsed : Nat := 0
def theMethod : MethodId := ⟨1, 1⟩
def args0 : Array Value := #[.int 5, .int 3, .int 7, .int 9, .int 1, .int 2]
def aboutOver (below : List Frame) : State where
  vm := { classes := classes, interned := interned.toArray }
  heap := heap
  slotsUsed := slotsUsed
  threads := #[{ frames := .invoking theMethod args0 :: below }]
def below0 : List Frame := [.native { method := ⟨0, 0⟩, args := #[] }]
def about1 : State := aboutOver below0
def p0 : Program := .bare "" "" ""
def e0 : Env := launch0.env 0 0 0
theorem w_frames : about1.frames = Frame.invoking theMethod args0 :: below0 := rfl
set_option maxRecDepth 65536 in
theorem w_args : argsFit about1.vm theMethod args0 = true := by decide +kernel
set_option maxRecDepth 65536 in
theorem w_heap : heapFits about1 = true := by decide +kernel
set_option maxRecDepth 65536 in
theorem w_runnable : about1.curStatus? = some .runnable := by decide +kernel
set_option maxRecDepth 65536 in
theorem w_alone : about1.alone = true := by decide +kernel
set_option maxRecDepth 65536 in
theorem w_named : about1.methodNamed? x = some theMethod := by decide +kernel
set_option maxRecDepth 65536 in
theorem w_hears : about1.hears theMethod below0 = true := by decide +kernel
set_option maxRecDepth 65536 in
theorem w_ripe : about1.ripe theMethod args0 below0 = true := by decide +kernel
theorem w_running : about1.status = .running := rfl
set_option maxRecDepth 65536 in
theorem w_room : about1.hasRoom e0.platform room_1 = true :=
  launch0.hasRoom_least _ room_1 (by decide +kernel) (by decide +kernel) (by decide +kernel) (by decide +kernel) (by decide +kernel) (by decide +kernel)
theorem allAtoms_all (ts : List Jvm.Cond) (a : Array Jvm.Value) (st : Jvm.State) : (allAtoms ts).before a st = ts.all (fun c => c.before a st) := by
  induction ts with
  | nil => rfl
  | cons c t ih =>
    show (Jvm.Cond.and c (allAtoms t)).before a st = _
    rw [Jvm.Cond.before_and, ih, List.all_cons]
def words1 : List Jvm.Cond := Jvm.Cond.code x code maxLocals ret :: tables_1
/-- a 'code' word, met by the world's own term for the bytes: nothing is compared byte by byte -/
theorem code_word {y : MethodName} {bytes : ByteArray} {mx : Nat} {rt : Option FieldType} {a : Array Value} {s : State} {m : MethodId} {meth : Method} {c : Code} (h1 : s.methodNamed? y = some m) (h2 : s.vm.method? m = some meth) (h3 : meth.code = some c) (h4 : c.code = bytes)
    (h5 : (c.maxLocals == mx && c.exceptionTable.isEmpty && decide (c.maxStack ≤ mostOperands) && decide (meth.sig.returnType = rt) && !meth.locks && decide (parseMethodDescriptor y.desc = some meth.sig)) = true) : (Jvm.Cond.code y bytes mx rt).before a s = true := by
  simp only [Bool.and_eq_true, beq_iff_eq, Bool.not_eq_true', decide_eq_true_eq] at h5
  obtain ⟨⟨⟨⟨⟨g1, g2⟩, g3⟩, g4⟩, g5⟩, g6⟩ := h5
  simp [Cond.before, Cond.holds, Cond.value, h1, h2, h3, h4, g1, g2, g3, g4, g5, g6]
def isCode : Jvm.Cond → Bool
  | .code _ _ _ _ => true
  | _ => false
theorem all_split {L : List Jvm.Cond} {P : Jvm.Cond → Bool} (h1 : L.all (fun c => isCode c || P c) = true) (h2 : ∀ c ∈ L.filter isCode, P c = true) : L.all P = true := by
  refine List.all_eq_true.mpr fun c hc => ?_
  have h := List.all_eq_true.mp h1 c hc
  rcases Bool.eq_false_or_eq_true (isCode c) with hi | hi
  · exact h2 c (List.mem_filter.mpr ⟨hc, hi⟩)
  · simpa [hi] using h
set_option maxRecDepth 65536 in
theorem w_c0 : (Jvm.Cond.code x code maxLocals ret).before args0 about1 = true := code_word (m := ⟨1, 1⟩) (meth := k1m1) (c := k1c1) (by decide +kernel) rfl rfl rfl (by decide +kernel)
set_option maxRecDepth 65536 in
theorem w_c1 : (Jvm.Cond.code ({ cls := "com/example/geirfa/geirfa/retrieval/Smoothing$JelinekMercer", name := "<init>", desc := "(D)V" } : Jvm.MethodName) prog_29_method_1_code (3 : Nat) (Option.none : Option Jvm.ClassFile.FieldType)).before args0 about1 = true := code_word (m := ⟨4, 0⟩) (meth := k4m0) (c := k4c0) (by decide +kernel) rfl rfl rfl (by decide +kernel)
set_option maxRecDepth 65536 in
theorem w_c2 : (Jvm.Cond.code ({ cls := "java/lang/Record", name := "<init>", desc := "()V" } : Jvm.MethodName) jdk_30_method_1_code (1 : Nat) (Option.none : Option Jvm.ClassFile.FieldType)).before args0 about1 = true := code_word (m := ⟨2, 0⟩) (meth := k2m0) (c := k2c0) (by decide +kernel) rfl rfl rfl (by decide +kernel)
set_option maxRecDepth 65536 in
theorem w_c3 : (Jvm.Cond.code ({ cls := "java/lang/Object", name := "<init>", desc := "()V" } : Jvm.MethodName) object_method_1_code (1 : Nat) (Option.none : Option Jvm.ClassFile.FieldType)).before args0 about1 = true := code_word (m := ⟨0, 0⟩) (meth := k0m0) (c := k0c0) (by decide +kernel) rfl rfl rfl (by decide +kernel)
set_option maxRecDepth 65536 in
theorem w_c4 : (Jvm.Cond.code ({ cls := "com/example/geirfa/geirfa/retrieval/Smoothing$JelinekMercer", name := "probability", desc := "(IID)D" } : Jvm.MethodName) prog_29_method_3_code (5 : Nat) (Option.some Jvm.ClassFile.FieldType.double)).before args0 about1 = true := code_word (m := ⟨4, 1⟩) (meth := k4m1) (c := k4c1) (by decide +kernel) rfl rfl rfl (by decide +kernel)
set_option maxRecDepth 65536 in
theorem w_c5 : (Jvm.Cond.code ({ cls := "java/lang/Math", name := "max", desc := "(II)I" } : Jvm.MethodName) jdk_29_method_65_code (2 : Nat) (Option.some Jvm.ClassFile.FieldType.int)).before args0 about1 = true := code_word (m := ⟨5, 1⟩) (meth := k5m1) (c := k5c1) (by decide +kernel) rfl rfl rfl (by decide +kernel)
def codes1 : List Jvm.Cond := [Jvm.Cond.code x code maxLocals ret, Jvm.Cond.code ({ cls := "com/example/geirfa/geirfa/retrieval/Smoothing$JelinekMercer", name := "<init>", desc := "(D)V" } : Jvm.MethodName) prog_29_method_1_code (3 : Nat) (Option.none : Option Jvm.ClassFile.FieldType), Jvm.Cond.code ({ cls := "java/lang/Record", name := "<init>", desc := "()V" } : Jvm.MethodName) jdk_30_method_1_code (1 : Nat) (Option.none : Option Jvm.ClassFile.FieldType), Jvm.Cond.code ({ cls := "java/lang/Object", name := "<init>", desc := "()V" } : Jvm.MethodName) object_method_1_code (1 : Nat) (Option.none : Option Jvm.ClassFile.FieldType), Jvm.Cond.code ({ cls := "com/example/geirfa/geirfa/retrieval/Smoothing$JelinekMercer", name := "probability", desc := "(IID)D" } : Jvm.MethodName) prog_29_method_3_code (5 : Nat) (Option.some Jvm.ClassFile.FieldType.double), Jvm.Cond.code ({ cls := "java/lang/Math", name := "max", desc := "(II)I" } : Jvm.MethodName) jdk_29_method_65_code (2 : Nat) (Option.some Jvm.ClassFile.FieldType.int)]
set_option maxRecDepth 65536 in
theorem codes_eq : words1.filter isCode = codes1 := rfl
theorem w_codes : ∀ c ∈ words1.filter isCode, c.before args0 about1 = true := by
  rw [codes_eq]
  intro c hc
  simp only [codes1, List.mem_cons, List.not_mem_nil, or_false] at hc
  rcases hc with rfl | rfl | rfl | rfl | rfl | rfl
  · exact w_c0
  · exact w_c1
  · exact w_c2
  · exact w_c3
  · exact w_c4
  · exact w_c5
set_option maxRecDepth 65536 in
theorem w_t1 : (words1.take 24).all (fun c => isCode c || c.before args0 about1) = true := by decide +kernel
set_option maxRecDepth 65536 in
theorem w_t2 : (words1.drop 24).all (fun c => isCode c || c.before args0 about1) = true := by decide +kernel
theorem w_tables : (allAtoms (Jvm.Cond.code x code maxLocals ret :: tables_1)).before args0 about1 = true := by
  rw [allAtoms_all]
  show words1.all (fun c => c.before args0 about1) = true
  refine all_split ?_ w_codes
  rw [← List.take_append_drop 24 words1, List.all_append, w_t1, w_t2]
  rfl
set_option maxRecDepth 65536 in
theorem w_case : (Jvm.Cond.and given_1 narrow_1).before args0 about1 = true := by decide +kernel
theorem w_applies : (headSpec (Jvm.Cond.code x code maxLocals ret :: tables_1) room_1).applies x e0.platform about1 = true :=
  (Spec.applies_iff w_frames).mpr ⟨w_running, w_runnable, w_alone, w_named, w_hears, w_ripe, w_room, w_tables⟩
theorem atStart : AtStart classFile x code maxLocals ret World_1 tables_1 room_1 Calls_1 rest_1 Pre_1 launch0 p0 e0 about1 theMethod args0 below0 :=
  ⟨lists_1, trivial, launch0.admits_env _ _ _, launch0.least_env, fairChoices_fair.cas, fairChoices_fair.clock, w_frames, w_args, w_heap, w_applies, trivial, trivial, w_case⟩
end start1
theorem witness_1 : WitnessClaimed_1 := ⟨start1.p0, start1.e0, start1.about1, start1.theMethod, start1.args0, start1.below0, start1.atStart⟩
end Jvm.Pilot.@@N@@
