import JvmDerived
import JvmDerived.Pilot.@@N@@Statement
import JvmDerived.Pilot.@@N@@Code
set_option linter.unusedVariables false
set_option linter.unusedSimpArgs false
namespace Jvm.Pilot.@@N@@.Dyad
open Jvm Jvm.FP Jvm.FP.Core
/-- the exponent moved up by k -/
def sh (k : Int) : Datum → Datum
  | .nan => .nan
  | .inf s => .inf s
  | .fin s c q => .fin s c (q + k)
theorem sh_prod (k l : Int) (x y : Datum) : exactProduct (sh k x) (sh l y) = sh (k + l) (exactProduct x y) := by
  cases x <;> cases y <;> simp only [sh, exactProduct]
  · split <;> rfl
  · split <;> rfl
  · rw [show ∀ q r : Int, q + k + (r + l) = q + r + (k + l) from fun q r => by omega]
theorem inUnits_sh (c : Nat) (q e k : Int) : inUnits c (q + k) (e + k) = inUnits c q e := by
  unfold inUnits; rw [show q + k - (e + k) = q - e by omega]
theorem min_sh (q r k : Int) : min (q + k) (r + k) = min q r + k := by omega
theorem sumUnits_sh (s : Bool) (c : Nat) (q : Int) (t : Bool) (d : Nat) (r e k : Int) : sumUnits s c (q + k) t d (r + k) (e + k) = sumUnits s c q t d r e := by
  unfold sumUnits; rw [inUnits_sh, inUnits_sh]
theorem sh_sum (k : Int) (x y : Datum) : exactSum (sh k x) (sh k y) = sh k (exactSum x y) := by
  cases x <;> cases y <;> simp only [sh, exactSum]
  · split <;> rfl
  · rw [min_sh, sumUnits_sh]
theorem sh_neg (k : Int) (x : Datum) : negate (sh k x) = sh k (negate x) := by
  cases x <;> rfl
theorem order_sh (k : Int) (x y : Datum) : order (sh k x) (sh k y) = order x y := by
  cases x <;> cases y <;> simp only [sh, order]
  rw [min_sh, inUnits_sh, inUnits_sh]
theorem sh_zero (x : Datum) : sh 0 x = x := by
  cases x <;> simp [sh]
/-- x is the number n / 2^k -/
def Dy (n k : Int) (x : UInt64) : Prop := Whole n (sh k (val64 x))
theorem Dy.fin {n k : Int} {x : UInt64} (h : Dy n k x) : ∃ s c q, val64 x = .fin s c q ∧ Whole n (.fin s c (q + k)) := by
  unfold Dy at h
  cases hx : val64 x with
  | nan => rw [hx] at h; exact h.elim
  | inf s => rw [hx] at h; exact h.elim
  | fin s c q => rw [hx] at h; exact ⟨s, c, q, rfl, h⟩
theorem Dy.ne_nan {n k : Int} {x : UInt64} (h : Dy n k x) : val64 x ≠ .nan := by
  obtain ⟨s, c, q, e, -⟩ := h.fin; rw [e]; exact Datum.noConfusion
theorem Dy.no {n k : Int} {x : UInt64} (h : Dy n k x) : Jvm.Free.Fl.NoNaN64 x := Jvm.Free.Fl.val64_no.mpr h.ne_nan
theorem whole_scale {n : Int} {s : Bool} {c : Nat} {a : Int} (j : Nat) : Whole n (.fin s c a) ↔ Whole (n * ((2 ^ j : Nat) : Int)) (.fin s c (a + j)) := by
  show signed s (c * 2 ^ a.toNat) = n * ((2 ^ (-a).toNat : Nat) : Int) ↔ signed s (c * 2 ^ (a + j).toNat) = n * ((2 ^ j : Nat) : Int) * ((2 ^ (-(a + j)).toNat : Nat) : Int)
  have e : (a + j).toNat + (-a).toNat = a.toNat + (j + (-(a + j)).toNat) := by omega
  have p : ((2 ^ (-a).toNat : Nat) : Int) ≠ 0 := by have := Nat.two_pow_pos (-a).toNat; omega
  have p2 : ((2 ^ j : Nat) : Int) ≠ 0 := by have := Nat.two_pow_pos j; omega
  have p3 : ((2 ^ (-(a + j)).toNat : Nat) : Int) ≠ 0 := by have := Nat.two_pow_pos (-(a + j)).toNat; omega
  rw [signed_mul, signed_mul]
  have e2 : ((2 ^ (a + j).toNat : Nat) : Int) * ((2 ^ (-a).toNat : Nat) : Int) = ((2 ^ a.toNat : Nat) : Int) * (((2 ^ j : Nat) : Int) * ((2 ^ (-(a + j)).toNat : Nat) : Int)) := by
    rw [← Int.natCast_mul, ← Int.natCast_mul, ← Int.natCast_mul, ← Nat.pow_add, ← Nat.pow_add, ← Nat.pow_add, e]
  generalize signed s c = v
  generalize ((2 ^ (a + j).toNat : Nat) : Int) = P at e2 ⊢
  generalize ((2 ^ (-a).toNat : Nat) : Int) = M at p e2 ⊢
  generalize ((2 ^ a.toNat : Nat) : Int) = A at e2 ⊢
  generalize ((2 ^ j : Nat) : Int) = J at p2 e2 ⊢
  generalize ((2 ^ (-(a + j)).toNat : Nat) : Int) = N at p3 e2 ⊢
  have q1 : v * P * M = v * A * (J * N) := by
    calc v * P * M = v * (P * M) := Int.mul_assoc _ _ _
      _ = v * (A * (J * N)) := by rw [e2]
      _ = v * A * (J * N) := (Int.mul_assoc _ _ _).symm
  have q2 : n * J * N * M = n * M * (J * N) := by simp only [Int.mul_assoc, Int.mul_comm, Int.mul_left_comm]
  constructor
  · intro h
    apply Int.eq_of_mul_eq_mul_right p
    rw [q1, h, q2]
  · intro h
    apply Int.eq_of_mul_eq_mul_right (Int.mul_ne_zero p2 p3)
    rw [← q1, h, q2]
theorem Dy.scale {n k : Int} {x : UInt64} (j : Nat) : Dy n k x ↔ Dy (n * ((2 ^ j : Nat) : Int)) (k + j) x := by
  unfold Dy
  cases val64 x with
  | nan => exact Iff.rfl
  | inf s => exact Iff.rfl
  | fin s c q =>
    show Whole _ (.fin s c (q + k)) ↔ Whole _ (.fin s c (q + (k + j)))
    rw [show q + (k + (j : Int)) = q + k + j by omega]
    exact whole_scale j
theorem Dy.cast {n m k : Int} {x : UInt64} (h : Dy n k x) (e : n = m) : Dy m k x := e ▸ h
theorem Dy.up {n m k l : Int} {x : UInt64} (h : Dy n k x) (j : Nat) (hl : k + j = l) (e : n * ((2 ^ j : Nat) : Int) = m) : Dy m l x := by subst hl e; exact (Dy.scale j).mp h
theorem Dy.down {n m k l : Int} {x : UInt64} (h : Dy n k x) (j : Nat) (hl : l + j = k) (e : m * ((2 ^ j : Nat) : Int) = n) : Dy m l x := by subst hl e; exact (Dy.scale j).mpr h
theorem Dy.i2d (a : Int32) : Dy a.toInt 0 (FP.i2d a) := by
  unfold Dy; rw [sh_zero]; exact i2d_int a
theorem Dy.l2d {a : Int64} (h : a.toInt.natAbs ≤ 2 ^ 53) : Dy a.toInt 0 (FP.l2d a) := by
  unfold Dy; rw [sh_zero]; exact l2d_int h
theorem Dy.lit {n : Int64} {x : UInt64} {m : Int} (h : x = FP.l2d n) (e : n.toInt = m) (b : m.natAbs ≤ 2 ^ 53) : Dy m 0 x := by
  subst h e; exact Dy.l2d b
theorem Dy.cmp {n m k : Int} {x y : UInt64} (hx : Dy n k x) (hy : Dy m k y) : FP.dcmp x y = some (compare n m) := by
  show order (val64 x) (val64 y) = _
  rw [← order_sh k]; exact order_whole hx hy
theorem compare_lt {n m : Int} (h : n < m) : compare n m = .lt := (compare_lt_iff n m).mpr h
theorem compare_eq {n m : Int} (h : n = m) : compare n m = .eq := (compare_eq_iff n m).mpr h
theorem compare_gt {n m : Int} (h : m < n) : compare n m = .gt := by
  rw [compare_swap_int, compare_lt h]; rfl
theorem Dy.lt {n m k : Int} {x y : UInt64} (hx : Dy n k x) (hy : Dy m k y) (h : n < m) (o : Jvm.ClassFile.CmpOp) : Op.cmpValue (FP.dcmp x y) o = -1 := by rw [hx.cmp hy, compare_lt h]; rfl
theorem Dy.eq {n m k : Int} {x y : UInt64} (hx : Dy n k x) (hy : Dy m k y) (h : n = m) (o : Jvm.ClassFile.CmpOp) : Op.cmpValue (FP.dcmp x y) o = 0 := by rw [hx.cmp hy, compare_eq h]; rfl
theorem Dy.gt {n m k : Int} {x y : UInt64} (hx : Dy n k x) (hy : Dy m k y) (h : m < n) (o : Jvm.ClassFile.CmpOp) : Op.cmpValue (FP.dcmp x y) o = 1 := by rw [hx.cmp hy, compare_gt h]; rfl
theorem signed_natAbs {n : Int} {s : Bool} (h : n ≠ 0 → s = decide (n < 0)) : signed s n.natAbs = n := by
  by_cases h0 : n = 0
  · subst h0; exact signed_zero s
  · rw [h h0]; unfold signed
    by_cases q : n < 0
    · simp [q]; omega
    · simp [q]; omega
/-- a number of 53 digits is held exactly -/
theorem round_dy {n k : Int} {d : Datum} (h : Whole n (sh k d)) (hn : n.natAbs < 2 ^ 53) (hk : -900 ≤ k ∧ k ≤ 1000) : Whole n (sh k (round b64 d)) := by
  cases d with
  | nan => exact h.elim
  | inf s => exact h.elim
  | fin s c q =>
    have h1 : Whole n (.fin s c (q + k)) := h
    have e : round b64 (.fin s c q) = round b64 (.fin s n.natAbs (-k)) := by
      show roundRatio b64 s c 1 q = roundRatio b64 s n.natAbs 1 (-k)
      refine roundRatio_congr (by decide) (by decide) ?_
      have := whole_natAbs h1
      rw [Nat.mul_one, Nat.mul_one, show q - -k = q + k by omega, show -k - q = -(q + k) by omega]
      exact this
    have hq : b64.qmin = -1074 := qmin_b64
    have hp : b64.p = 53 := rfl
    obtain ⟨c', q', e1, e2⟩ := round_exact good_b64 s (c := n.natAbs) (q := -k) (by rw [hp]; exact hn) (by rw [hq]; omega) (by rw [show b64.qmax = 971 by decide]; omega)
    rw [e, e1]
    have hf := round_fits good_b64 (.fin s n.natAbs (-k))
    rw [e1] at hf
    have hq' : -1074 ≤ q' := hq ▸ hf.2.1
    unfold inUnits at e2
    rw [hq] at e2
    show signed s (c' * 2 ^ (q' + k).toNat) = n * ((2 ^ (-(q' + k)).toNat : Nat) : Int)
    have key : c' * 2 ^ (q' + k).toNat = n.natAbs * 2 ^ (-(q' + k)).toNat := by
      have e3 : (q' + k).toNat + (-k - -1074).toNat = (q' - -1074).toNat + (-(q' + k)).toNat := by omega
      apply Nat.eq_of_mul_eq_mul_right (Nat.two_pow_pos (-k - -1074).toNat)
      rw [Nat.mul_assoc, ← Nat.pow_add, e3, Nat.pow_add, ← Nat.mul_assoc, e2]
      simp only [Nat.mul_assoc, Nat.mul_comm, Nat.mul_left_comm]
    rw [key, signed_mul, signed_natAbs (fun h0 => whole_sign h1 h0)]
theorem Dy.mul {n m k l : Int} {x y : UInt64} (hx : Dy n k x) (hy : Dy m l y) (hb : (n * m).natAbs < 2 ^ 53) (hk : -900 ≤ k + l ∧ k + l ≤ 1000) : Dy (n * m) (k + l) (FP.dmul x y) := by
  unfold Dy
  rw [show val64 (FP.dmul x y) = _ from val64_dmul x y]
  refine round_dy ?_ hb hk
  rw [← sh_prod]
  exact whole_product hx hy
theorem Dy.add {n m k : Int} {x y : UInt64} (hx : Dy n k x) (hy : Dy m k y) (hb : (n + m).natAbs < 2 ^ 53) (hk : -900 ≤ k ∧ k ≤ 1000) : Dy (n + m) k (FP.dadd x y) := by
  unfold Dy
  rw [show val64 (FP.dadd x y) = _ from val64_dadd x y]
  refine round_dy ?_ hb hk
  rw [← sh_sum]
  exact whole_sum hx hy
theorem Dy.sub {n m k : Int} {x y : UInt64} (hx : Dy n k x) (hy : Dy m k y) (hb : (n - m).natAbs < 2 ^ 53) (hk : -900 ≤ k ∧ k ≤ 1000) : Dy (n - m) k (FP.dsub x y) := by
  unfold Dy
  rw [show val64 (FP.dsub x y) = _ from val64_dsub x y]
  refine round_dy ?_ hb hk
  rw [← sh_sum, ← sh_neg, Int.sub_eq_add_neg]
  exact whole_sum hx (whole_negate hy)
/-- the quotient's rounding, by the values alone -/
theorem Dy.quot {n m k l : Int} {x y : UInt64} (hx : Dy n k x) (hy : Dy m l y) (hm : m ≠ 0) : ∃ s, val64 (FP.ddiv x y) = roundRatio b64 s n.natAbs m.natAbs (l - k) ∧ (n ≠ 0 → s = (decide (n < 0) != decide (m < 0))) := by
  obtain ⟨s, c, q, ex, wx⟩ := hx.fin
  obtain ⟨t, d, r, ey, wy⟩ := hy.fin
  have hd : d ≠ 0 := fun z => hm ((whole_zero wy).mp z)
  refine ⟨s != t, ?_, fun h0 => by rw [whole_sign wx h0, whole_sign wy hm]⟩
  rw [show val64 (FP.ddiv x y) = _ from val64_ddiv x y, ex, ey]
  simp only [quotient, if_neg hd]
  refine roundRatio_congr (Nat.pos_of_ne_zero hd) (by omega) ?_
  have e1 := whole_natAbs wx
  have e2 := whole_natAbs wy
  have e3 : (q - r - (l - k)).toNat + ((-(q + k)).toNat + (r + l).toNat) = (l - k - (q - r)).toNat + ((q + k).toNat + (-(r + l)).toNat) := by omega
  apply Nat.eq_of_mul_eq_mul_right (Nat.two_pow_pos ((-(q + k)).toNat + (r + l).toNat))
  rw [Nat.mul_assoc, ← Nat.pow_add, e3, Nat.pow_add, Nat.pow_add, Nat.pow_add]
  generalize 2 ^ (l - k - (q - r)).toNat = P
  generalize 2 ^ (q + k).toNat = A at *
  generalize 2 ^ (-(q + k)).toNat = A' at *
  generalize 2 ^ (r + l).toNat = B at *
  generalize 2 ^ (-(r + l)).toNat = B' at *
  calc c * m.natAbs * (P * (A * B')) = (c * A) * (m.natAbs * B') * P := by simp only [Nat.mul_assoc, Nat.mul_comm, Nat.mul_left_comm]
    _ = (n.natAbs * A') * (d * B) * P := by rw [e1, e2]
    _ = n.natAbs * d * P * (A' * B) := by simp only [Nat.mul_assoc, Nat.mul_comm, Nat.mul_left_comm]
theorem sgn_of_quot {n m j : Int} {a b c : Nat} (ha : 0 < a) (hb : 0 < b) (hm : m ≠ 0) (h : n * (a : Int) = j * m * (b : Int)) (hj : j ≠ 0) : (n ≠ 0) ∧ decide (j < 0) = (decide (n < 0) != decide (m < 0)) := by
  have hn : n ≠ 0 := by
    intro z; rw [z, Int.zero_mul] at h
    have := Int.mul_eq_zero.mp h.symm
    rcases this with q | q
    · rcases Int.mul_eq_zero.mp q with q | q
      · exact hj q
      · exact hm q
    · omega
  refine ⟨hn, ?_⟩
  have ha' : (0 : Int) < a := by omega
  have hb' : (0 : Int) < b := by omega
  rcases Int.lt_or_gt_of_ne hj with q | q <;> rcases Int.lt_or_gt_of_ne hm with r | r <;> rcases Int.lt_or_gt_of_ne hn with t | t
  all_goals first
    | (simp [q, r, t]; done)
    | (simp [q, r, t, Int.not_lt.mpr (Int.le_of_lt q), Int.not_lt.mpr (Int.le_of_lt r), Int.not_lt.mpr (Int.le_of_lt t)]; done)
    | (simp [q, r, t, Int.not_lt.mpr (Int.le_of_lt q), Int.not_lt.mpr (Int.le_of_lt r)]; done)
    | (simp [q, r, t, Int.not_lt.mpr (Int.le_of_lt q), Int.not_lt.mpr (Int.le_of_lt t)]; done)
    | (simp [q, r, t, Int.not_lt.mpr (Int.le_of_lt r), Int.not_lt.mpr (Int.le_of_lt t)]; done)
    | (simp [q, r, t, Int.not_lt.mpr (Int.le_of_lt q)]; done)
    | (simp [q, r, t, Int.not_lt.mpr (Int.le_of_lt r)]; done)
    | (simp [q, r, t, Int.not_lt.mpr (Int.le_of_lt t)]; done)
    | (exfalso
       have s1 : n * (a : Int) < 0 ∨ 0 < n * (a : Int) := by
         rcases Int.lt_or_gt_of_ne hn with t | t
         · exact Or.inl (Int.mul_neg_of_neg_of_pos t ha')
         · exact Or.inr (Int.mul_pos t ha')
       first
       | (have u := Int.mul_neg_of_neg_of_pos (Int.mul_neg_of_neg_of_pos q r) hb'; have v := Int.mul_pos t ha'; omega)
       | (have u := Int.mul_neg_of_neg_of_pos (Int.mul_neg_of_pos_of_neg q r) hb'; have v := Int.mul_pos t ha'; omega)
       | (have u := Int.mul_pos (Int.mul_pos q r) hb'; have v := Int.mul_neg_of_neg_of_pos t ha'; omega)
       | (have u := Int.mul_pos (Int.mul_pos_of_neg_of_neg q r) hb'; have v := Int.mul_neg_of_neg_of_pos t ha'; omega))
/-- an exact quotient: x / y = j / 2^i -/
theorem Dy.div {n m j k l i : Int} {x y : UInt64} (u v : Nat) (hx : Dy n k x) (hy : Dy m l y) (hm : m ≠ 0) (huv : (u : Int) - v = l + i - k) (hv : n * ((2 ^ u : Nat) : Int) = j * m * ((2 ^ v : Nat) : Int)) (hj : j.natAbs < 2 ^ 53) (hi : -900 ≤ i ∧ i ≤ 1000) : Dy j i (FP.ddiv x y) := by
  obtain ⟨s, e, hs⟩ := hx.quot hy hm
  unfold Dy
  rw [e]
  have hva : n.natAbs * 2 ^ u = j.natAbs * m.natAbs * 2 ^ v := by
    have := congrArg Int.natAbs hv
    rw [Int.natAbs_mul, Int.natAbs_mul, Int.natAbs_mul, Int.natAbs_natCast, Int.natAbs_natCast] at this
    exact this
  have e2 : roundRatio b64 s n.natAbs m.natAbs (l - k) = round b64 (.fin s j.natAbs (-i)) := by
    show _ = roundRatio b64 s j.natAbs 1 (-i)
    refine roundRatio_congr (by omega) (by decide) ?_
    rw [Nat.mul_one]
    have e3 : (l - k - -i).toNat + v = (-i - (l - k)).toNat + u := by omega
    apply Nat.eq_of_mul_eq_mul_right (Nat.two_pow_pos v)
    rw [Nat.mul_assoc, ← Nat.pow_add, e3, Nat.pow_add]
    generalize 2 ^ (-i - (l - k)).toNat = W
    calc n.natAbs * (W * 2 ^ u) = (n.natAbs * 2 ^ u) * W := by simp only [Nat.mul_assoc, Nat.mul_comm, Nat.mul_left_comm]
      _ = j.natAbs * m.natAbs * 2 ^ v * W := by rw [hva]
      _ = j.natAbs * m.natAbs * W * 2 ^ v := by simp only [Nat.mul_assoc, Nat.mul_comm, Nat.mul_left_comm]
  rw [e2]
  refine round_dy ?_ hj hi
  show signed s (j.natAbs * 2 ^ (-i + i).toNat) = j * ((2 ^ (-(-i + i)).toNat : Nat) : Int)
  rw [show (-i + i) = 0 by omega]
  simp only [Int.toNat_zero, Nat.pow_zero, Nat.mul_one, Int.neg_zero, Int.natCast_one, Int.mul_one]
  refine signed_natAbs fun h0 => ?_
  obtain ⟨hn, hsg⟩ := sgn_of_quot (c := 0) (Nat.two_pow_pos u) (Nat.two_pow_pos v) hm hv h0
  rw [hs hn, hsg]
end Jvm.Pilot.@@N@@.Dyad
namespace Jvm.Pilot.@@N@@.Dyad
open Jvm Jvm.FP Jvm.FP.Core
theorem Dy.of_fin {x : UInt64} {s : Bool} {c : Nat} {q : Int} (h : val64 x = .fin s c q) : Dy (signed s c) (-q) x := by
  unfold Dy; rw [h]
  show signed s (c * 2 ^ (q + -q).toNat) = signed s c * ((2 ^ (-(q + -q)).toNat : Nat) : Int)
  rw [show q + -q = 0 by omega]; simp
theorem Dy.of_zero {x : UInt64} {s : Bool} {q : Int} (h : val64 x = .fin s 0 q) (k : Int) : Dy 0 k x := by
  unfold Dy; rw [h]
  show signed s (0 * 2 ^ (q + k).toNat) = 0 * ((2 ^ (-(q + k)).toNat : Nat) : Int)
  rw [Nat.zero_mul, signed_zero, Int.zero_mul]
theorem l2d_form (v : Int64) (h : v.toInt ≠ 0) : ∃ s c q, val64 (FP.l2d v) = .fin s c q ∧ c ≠ 0 ∧ c < 2 ^ 53 ∧ -60 ≤ q ∧ q ≤ 20 := by
  have hm := l2d_mag v
  have hb := (l2d_big h).1
  have hE : fieldE b64 (FP.l2d v).toNat = ((FP.l2d v).toNat % 2 ^ 63) / 2 ^ 52 := by rw [fieldE_mag, mag_toNat64, tails_b64]
  have hE1 : 1023 ≤ fieldE b64 (FP.l2d v).toNat := by rw [hE]; exact (Nat.le_div_iff_mul_le (by decide)).mpr hb
  have hE2 : fieldE b64 (FP.l2d v).toNat < 1088 := by rw [hE]; exact (Nat.div_lt_iff_lt_mul (by decide)).mpr hm
  have hx : b64.exps - 1 = 2047 := exps_b64
  have ht : fieldT b64 (FP.l2d v).toNat < b64.tails := fieldT_lt _ _
  rw [tails_b64] at ht
  refine ⟨fieldS b64 (FP.l2d v).toNat, b64.tails + fieldT b64 (FP.l2d v).toNat, b64.qmin + ((fieldE b64 (FP.l2d v).toNat : Int) - 1), ?_, ?_, ?_, ?_, ?_⟩
  · show decode b64 (FP.l2d v).toNat = _
    unfold decode
    rw [if_neg (by omega), if_neg (by omega)]
  · rw [tails_b64]; omega
  · rw [tails_b64]; omega
  · rw [qmin_b64]; omega
  · rw [qmin_b64]; omega
/-- equal quotients of equal values -/
theorem quot_eq {n m k l n' m' k' l' : Int} {x y x' y' : UInt64} (hx : Dy n k x) (hy : Dy m l y) (hx' : Dy n' k' x') (hy' : Dy m' l' y') (hm : m ≠ 0) (en : n' = n) (em : m' = m) (ek : l' - k' = l - k) (o : Jvm.ClassFile.CmpOp) : Op.cmpValue (FP.dcmp (FP.ddiv x y) (FP.ddiv x' y')) o = 0 := by
  subst en em
  obtain ⟨s, e, hs⟩ := hx.quot hy hm
  obtain ⟨s', e', hs'⟩ := hx'.quot hy' hm
  by_cases h0 : n' = 0
  · subst h0
    have z : ∀ (s : Bool) (B : Nat) (q : Int), roundRatio b64 s (0 : Int).natAbs B q = .fin s 0 b64.qmin := fun s B q => by unfold roundRatio; exact if_pos rfl
    rw [z] at e e'
    exact (Dy.of_zero e 0).eq (Dy.of_zero e' 0) rfl o
  · have : val64 (FP.ddiv x y) = val64 (FP.ddiv x' y') := by rw [e, e', hs h0, hs' h0, ek]
    have e2 : FP.dcmp (FP.ddiv x y) (FP.ddiv x' y') = some .eq := by
      show order (val64 _) (val64 _) = _
      rw [← this]; exact order_self (by rw [e]; exact roundRatio_ne_nan _ _ _ _ _)
    rw [e2]; rfl
theorem quot_no {n m k l : Int} {x y : UInt64} (hx : Dy n k x) (hy : Dy m l y) (hm : m ≠ 0) : Jvm.Free.Fl.NoNaN64 (FP.ddiv x y) := by
  obtain ⟨s, e, -⟩ := hx.quot hy hm
  exact Jvm.Free.Fl.val64_no.mpr (by rw [e]; exact roundRatio_ne_nan _ _ _ _ _)
theorem dy0 : Dy 0 0 FP.dconst0 := Dy.lit (n := 0) (by decide +kernel) rfl (by decide)
theorem dy1 : Dy 1 0 FP.dconst1 := Dy.lit (n := 1) (by decide +kernel) rfl (by decide)
theorem dy4 : Dy 4 0 (4616189618054758400 : UInt64) := Dy.lit (n := 4) (by decide +kernel) rfl (by decide)
theorem dy8 : Dy 8 0 (4620693217682128896 : UInt64) := Dy.lit (n := 8) (by decide +kernel) rfl (by decide)
theorem dy1024 : Dy 1024 0 (4652218415073722368 : UInt64) := Dy.lit (n := 1024) (by decide +kernel) rfl (by decide)
/-- a whole number over a power of two -/
theorem div8 {x : UInt64} {n : Int} (h : Dy n 0 x) (hn : n.natAbs < 2 ^ 53) : Dy n 3 (FP.ddiv x (4620693217682128896 : UInt64)) := h.div 3 0 dy8 (by decide) (by decide) (by omega) hn (by decide)
theorem div4 {x : UInt64} {n : Int} (h : Dy n 0 x) (hn : n.natAbs < 2 ^ 53) : Dy n 2 (FP.ddiv x (4616189618054758400 : UInt64)) := h.div 2 0 dy4 (by decide) (by decide) (by omega) hn (by decide)
theorem div1024 {x : UInt64} {n : Int} (h : Dy n 0 x) (hn : n.natAbs < 2 ^ 53) : Dy n 10 (FP.ddiv x (4652218415073722368 : UInt64)) := h.div 10 0 dy1024 (by decide) (by decide) (by omega) hn (by decide)
theorem i32_53 (a : Int32) : a.toInt.natAbs < 2 ^ 53 := by have := RoadKit.rng32 a; omega
end Jvm.Pilot.@@N@@.Dyad
namespace Jvm.Pilot.@@N@@.Dyad
open Jvm Jvm.FP Jvm.FP.Core
/-- (long) x of a number that is not below nought -/
theorem Dy.d2l {n : Int} {k : Nat} {x : UInt64} (h : Dy n k x) (hn : 0 ≤ n) (P : Int) (hP : P = ((2 ^ k : Nat) : Int)) (hb : n / P < 9223372036854775808) : (FP.d2l x).toInt = n / P := by
  subst hP
  obtain ⟨s, c, q, e, w⟩ := h.fin
  have hw := whole_natAbs w
  have e1 : c * 2 ^ q.toNat / 2 ^ (-q).toNat = n.natAbs / 2 ^ k := by
    have e3 : q.toNat + k + (-(q + k)).toNat = (-q).toNat + (q + k).toNat := by omega
    have e4 : c * 2 ^ q.toNat * 2 ^ k = n.natAbs * 2 ^ (-q).toNat := by
      apply Nat.eq_of_mul_eq_mul_right (Nat.two_pow_pos (q + k).toNat)
      calc c * 2 ^ q.toNat * 2 ^ k * 2 ^ (q + k).toNat = (c * 2 ^ (q + k).toNat) * (2 ^ q.toNat * 2 ^ k) := by simp only [Nat.mul_assoc, Nat.mul_comm, Nat.mul_left_comm]
        _ = (n.natAbs * 2 ^ (-(q + k)).toNat) * (2 ^ q.toNat * 2 ^ k) := by rw [hw]
        _ = n.natAbs * (2 ^ (q.toNat + k + (-(q + k)).toNat)) := by rw [Nat.pow_add, Nat.pow_add]; simp only [Nat.mul_assoc, Nat.mul_comm, Nat.mul_left_comm]
        _ = n.natAbs * (2 ^ ((-q).toNat + (q + k).toNat)) := by rw [e3]
        _ = n.natAbs * 2 ^ (-q).toNat * 2 ^ (q + k).toNat := by rw [Nat.pow_add, Nat.mul_assoc]
    have p1 := Nat.two_pow_pos k
    have p2 := Nat.two_pow_pos (-q).toNat
    calc c * 2 ^ q.toNat / 2 ^ (-q).toNat = c * 2 ^ q.toNat * 2 ^ k / (2 ^ (-q).toNat * 2 ^ k) := (Nat.mul_div_mul_right _ _ p1).symm
      _ = n.natAbs * 2 ^ (-q).toNat / (2 ^ k * 2 ^ (-q).toNat) := by rw [e4, Nat.mul_comm (2 ^ (-q).toNat)]
      _ = n.natAbs / 2 ^ k := Nat.mul_div_mul_right _ _ p2
  have e2 : truncate s c q = n / ((2 ^ k : Nat) : Int) := by
    unfold truncate
    rw [e1]
    have e5 : ((n.natAbs / 2 ^ k : Nat) : Int) = n / ((2 ^ k : Nat) : Int) := by rw [Int.natCast_ediv, Int.natAbs_of_nonneg hn]
    by_cases h0 : n = 0
    · subst h0; rw [show (0 : Int).natAbs = 0 from rfl, Nat.zero_div, signed_zero, Int.zero_ediv]
    · rw [whole_sign w h0, decide_eq_false (by omega : ¬ n < 0)]; exact e5
  have h0 : 0 ≤ n / ((2 ^ k : Nat) : Int) := Int.ediv_nonneg hn (Int.natCast_nonneg _)
  show (toL (val64 x)).toInt = _
  rw [e]
  show (Int64.ofInt (max (-2 ^ 63) (min (2 ^ 63 - 1) (truncate s c q)))).toInt = _
  rw [e2]
  generalize n / ((2 ^ k : Nat) : Int) = D at *
  rw [show max (-2 ^ 63) (min (2 ^ 63 - 1) D) = D by omega]
  exact Int64.toInt_ofInt_of_le (by omega) (by omega)
end Jvm.Pilot.@@N@@.Dyad
namespace Jvm.Pilot.@@N@@
open Jvm Jvm.ClassFile Sem Op Lib Jvm.Free Jvm.Stand Jvm.LawKit Jvm.RoadKit Bundle Jvm.Pilot.@@N@@.Jvm.D
def own_K (p : Program) (e : Env) (below : List Frame) (A B : State) : Prop := ∀ t, Steps p.tables e below A t → Steps p.tables e below B t
theorem own_ifT_eq {x : Int32} (h : x = 0) : ifCond.holds .eq x = true := by simp [ifCond.holds, h]
theorem own_ifF_eq {x : Int32} (h : ¬ x = 0) : ifCond.holds .eq x = false := by simp [ifCond.holds, h]
theorem own_ifT_ne {x : Int32} (h : ¬ x = 0) : ifCond.holds .ne x = true := by simp [ifCond.holds, h]
theorem own_ifF_ne {x : Int32} (h : x = 0) : ifCond.holds .ne x = false := by simp [ifCond.holds, h]
theorem own_ifT_lt {x : Int32} (h : x < 0) : ifCond.holds .lt x = true := by simp [ifCond.holds, h]
theorem own_ifF_lt {x : Int32} (h : ¬ x < 0) : ifCond.holds .lt x = false := by simp [ifCond.holds, h]
theorem own_ifT_ge {x : Int32} (h : ¬ x < 0) : ifCond.holds .ge x = true := by simp [ifCond.holds, Int32.not_lt.mp h]
theorem own_ifF_ge {x : Int32} (h : x < 0) : ifCond.holds .ge x = false := by simp [ifCond.holds, Int32.not_le.mpr h]
theorem own_ifT_gt {x : Int32} (h : 0 < x) : ifCond.holds .gt x = true := by simp [ifCond.holds, h]
theorem own_ifF_gt {x : Int32} (h : ¬ 0 < x) : ifCond.holds .gt x = false := by simp [ifCond.holds, h]
theorem own_ifT_le {x : Int32} (h : ¬ 0 < x) : ifCond.holds .le x = true := by simp [ifCond.holds, Int32.not_lt.mp h]
theorem own_ifF_le {x : Int32} (h : 0 < x) : ifCond.holds .le x = false := by simp [ifCond.holds, Int32.not_le.mpr h]
theorem own_icT_eq {x y : Int32} (h : x = y) : if_icmp.holds .eq x y = true := by simp [if_icmp.holds, h]
theorem own_icF_eq {x y : Int32} (h : ¬ x = y) : if_icmp.holds .eq x y = false := by simp [if_icmp.holds, h]
theorem own_icT_ne {x y : Int32} (h : ¬ x = y) : if_icmp.holds .ne x y = true := by simp [if_icmp.holds, h]
theorem own_icF_ne {x y : Int32} (h : x = y) : if_icmp.holds .ne x y = false := by simp [if_icmp.holds, h]
theorem own_icT_lt {x y : Int32} (h : x < y) : if_icmp.holds .lt x y = true := by simp [if_icmp.holds, h]
theorem own_icF_lt {x y : Int32} (h : ¬ x < y) : if_icmp.holds .lt x y = false := by simp [if_icmp.holds, h]
theorem own_icT_ge {x y : Int32} (h : ¬ x < y) : if_icmp.holds .ge x y = true := by simp [if_icmp.holds, Int32.not_lt.mp h]
theorem own_icF_ge {x y : Int32} (h : x < y) : if_icmp.holds .ge x y = false := by simp [if_icmp.holds, Int32.not_le.mpr h]
theorem own_icT_gt {x y : Int32} (h : y < x) : if_icmp.holds .gt x y = true := by simp [if_icmp.holds, h]
theorem own_icF_gt {x y : Int32} (h : ¬ y < x) : if_icmp.holds .gt x y = false := by simp [if_icmp.holds, h]
theorem own_icT_le {x y : Int32} (h : ¬ y < x) : if_icmp.holds .le x y = true := by simp [if_icmp.holds, Int32.not_lt.mp h]
theorem own_icF_le {x y : Int32} (h : y < x) : if_icmp.holds .le x y = false := by simp [if_icmp.holds, Int32.not_le.mpr h]
theorem own_from {p : Program} {e : Env} {below : List Frame} {A B t : State} (h : B = A) (q : Steps p.tables e below B t) : Steps p.tables e below A t := h ▸ q
abbrev rO (f c s l : Nat) : Room := { frames := f, cells := c, slots := s, locals := l }
abbrev own_Met (l : Launch) (y : MethodName) (code : ByteArray) (ml : Nat) (ret : Option FieldType) (ws : List Jvm.Cond) (rm : Room) (as' : Array Value) (Z : State) (h0 : Heap) (Q : Option Value → Heap → List Loc → Prop) : Prop :=
  MetFree l y (head1 (Jvm.Cond.code y code ml ret :: ws) rm) (fun ar_ U => ar_ = as' ∧ Z.Warmed39 U.vm ∧ U.heap = h0) (fun _ _ _ _ _ => True) (fun _ U o U' => ∃ v L, o = .returned v ∧ Q v U'.heap L ∧ FrameEnd U o U' L rm.cells rm.slots)
theorem own_InsKeep {Z : State} {h h' : Heap} {b : Addr} {C : String} {bo : Bool} {ws : List Addr} (F : Ins Z h b C bo) (K : Keep h h' ws) (q : b ∉ ws) : Ins Z h' b C bo := by obtain ⟨cell, k, h1, r⟩ := F; exact ⟨cell, k, K.2.1 _ _ h1 q, r⟩
theorem wT {Z : State} {a0 : Array Value} (hw : ∀ d ∈ tables_1, d.before a0 Z = true) (i : Nat) {d : Jvm.Cond} (h : tables_1[i]? = some d) : d.before a0 Z = true := hw d (List.mem_of_getElem? h)
theorem own_mvNest {Z s : State} {a0 args : Array Value} {own host : String} {index : Nat} {y : MethodName} (hZ : Z.Warmed39 s.vm) (w : (Cond.methodLinkNest own index y host).before a0 Z = true) : (Cond.methodLinkNest own index y host).before args s = true := (Cond.methodLinkNest_wide hZ w :)
theorem own_pop2 {tb : Tables} [Ours tb] {e : Env} {below : List Frame} {T target : State} {m : MethodId} {c : Code} {g : JFrame} (h : At T m c below) (hx : tb.exec = Jvm.exec) (hg : g.method = m) {x : UInt64} {rest : List Value} (hd : decode c.code g.pc = .ok (.pop2, 1)) (hs : g.stack = .double x :: rest)
    (hr : Steps tb e below (T.setTop { g with pc := g.pc + 1, stack := rest }) target) : Steps tb e below (T.setTop g) target := by
  subst hg
  jvm_step h [h.top, hx, hd, hs, Value.category]
  exact hr
open Jvm.Pilot.@@N@@.Dyad
abbrev own_S (x : Int32) : Int32 := (x &&& (2147483647 : Int32))
abbrev own_T (x : Int32) : Int32 := ((x &&& (2097151 : Int32)) + (1 : Int32))
theorem own_S_rng (x : Int32) : 0 ≤ (own_S x).toInt ∧ (own_S x).toInt < 2147483648 := by
  have h1 := c_mask x (2147483647 : Int32) 31 (by decide) (by decide)
  unfold own_S; rw [h1]; omega
theorem own_T_rng (x : Int32) : 1 ≤ (own_T x).toInt ∧ (own_T x).toInt ≤ 2097152 := by
  have h1 := c_mask x (2097151 : Int32) 21 (by decide) (by decide)
  have h3 := c_iadd (x &&& (2097151 : Int32)) (1 : Int32)
  have h4 := rng32 ((x &&& (2097151 : Int32)) + (1 : Int32))
  rw [h1, show (1 : Int32).toInt = 1 from rfl] at h3
  unfold own_T
  omega
abbrev own_sp (s : Int32) : UInt64 := FP.ddiv (FP.i2d (own_S s)) (4616189618054758400 : UInt64)
abbrev own_ts (t : Int32) : UInt64 := FP.ddiv (FP.i2d (own_T t)) (4620693217682128896 : UInt64)
theorem own_sp_dy (s : Int32) : Dy (own_S s).toInt 2 (own_sp s) := div4 (Dy.i2d _) (i32_53 _)
theorem own_ts_dy (t : Int32) : Dy (own_T t).toInt 3 (own_ts t) := div8 (Dy.i2d _) (i32_53 _)
theorem own_at (a t : Int32) : (a.toInt * (own_T t).toInt).natAbs ≤ 2147483648 * 2097152 := by
  have h1 := own_T_rng t
  have h2 := rng32 a
  rw [Int.natAbs_mul]
  exact Nat.mul_le_mul (by omega) (by omega)
theorem own_mul_dy (a t : Int32) : Dy (a.toInt * (own_T t).toInt) 3 (FP.dmul (FP.i2d a) (own_ts t)) := by
  have h := (Dy.i2d a).mul (own_ts_dy t) (by have := own_at a t; omega) (by decide)
  rwa [Int.zero_add] at h
theorem own_add_dy (s a t : Int32) : Dy (2 * (own_S s).toInt + a.toInt * (own_T t).toInt) 3 (FP.dadd (own_sp s) (FP.dmul (FP.i2d a) (own_ts t))) := by
  have h1 : Dy (2 * (own_S s).toInt) 3 (own_sp s) := (own_sp_dy s).up 1 rfl (by rw [Int.mul_comm]; rfl)
  have r := own_S_rng s
  have b := own_at a t
  exact h1.add (own_mul_dy a t) (by omega) (by decide)
abbrev own_num (s a t : Int32) : Int64 := ((2 : Int64) * ((own_S s).toInt64)) + ((a.toInt64) * ((own_T t).toInt64))
theorem own_num_val (s a t : Int32) : (own_num s a t).toInt = 2 * (own_S s).toInt + a.toInt * (own_T t).toInt := by
  have r := own_S_rng s
  have b := own_at a t
  have h1 := c_lmul (2 : Int64) ((own_S s).toInt64)
  have h2 := c_lmul (a.toInt64) ((own_T t).toInt64)
  have h3 := c_ladd ((2 : Int64) * ((own_S s).toInt64)) ((a.toInt64) * ((own_T t).toInt64))
  have r1 := rng64 ((2 : Int64) * ((own_S s).toInt64))
  have r2 := rng64 ((a.toInt64) * ((own_T t).toInt64))
  have r3 := rng64 (own_num s a t)
  rw [c_i2l, show (2 : Int64).toInt = 2 from rfl] at h1
  rw [c_i2l, c_i2l] at h2
  unfold own_num at *
  generalize a.toInt * (own_T t).toInt = Y at *
  omega
theorem own_ex_dy (s a t : Int32) : Dy (2 * (own_S s).toInt + a.toInt * (own_T t).toInt) 3 (FP.ddiv (FP.l2d (own_num s a t)) (4620693217682128896 : UInt64)) := by
  have r := own_S_rng s
  have b := own_at a t
  exact div8 ((Dy.l2d (by rw [own_num_val]; omega)).cast (own_num_val s a t)) (by omega)
def own_es (s a t : UInt64) : UInt64 := if cmpValue (FP.dcmp (FP.dadd s (FP.dmul a t)) FP.dconst0) .g < 0 then FP.dconst0 else FP.dadd s (FP.dmul a t)
theorem own_dy0_3 : Dy 0 3 FP.dconst0 := dy0.up 3 rfl rfl
theorem own_cmp0 (s a t : Int32) : cmpValue (FP.dcmp (FP.dadd (own_sp s) (FP.dmul (FP.i2d a) (own_ts t))) FP.dconst0) .g < 0 ↔ 2 * (own_S s).toInt + a.toInt * (own_T t).toInt < 0 := by
  have h := own_add_dy s a t
  generalize 2 * (own_S s).toInt + a.toInt * (own_T t).toInt = N at *
  by_cases q : N < 0
  · rw [h.lt own_dy0_3 q]; simp [q]
  · by_cases q2 : N = 0
    · rw [h.eq own_dy0_3 q2]; simp [q2]
    · rw [h.gt own_dy0_3 (by omega)]; simp [q]
theorem own_cmpL0 (x : Int64) : lcmpW x (0 : Int64) < 0 ↔ x.toInt < 0 := by
  unfold lcmpW
  rw [show (x.toInt < 0 ↔ x < 0) from by rw [Int64.lt_iff_toInt_lt]; rfl]
  by_cases h1 : (0 : Int64) < x
  · have : ¬ x < 0 := by rw [Int64.lt_iff_toInt_lt] at *; omega
    simp [h1, this]
  · by_cases h2 : x = 0
    · subst h2; simp
    · have : x < 0 := by rw [Int64.lt_iff_toInt_lt] at *; rw [← Int64.toInt_inj] at h2; omega
      simp [h1, h2, this]
theorem own_fin1 (s a t : Int32) (h : lcmpW (own_num s a t) (0 : Int64) < 0) : cmpValue (FP.dcmp (own_es (own_sp s) (FP.i2d a) (own_ts t)) FP.dconst0) .l = 0 := by
  rw [own_cmpL0, own_num_val] at h
  unfold own_es; rw [if_pos ((own_cmp0 s a t).mpr h)]
  exact dy0.eq dy0 rfl _
theorem own_fin2 (s a t : Int32) (h : ¬ lcmpW (own_num s a t) (0 : Int64) < 0) : cmpValue (FP.dcmp (own_es (own_sp s) (FP.i2d a) (own_ts t)) (FP.ddiv (FP.l2d (own_num s a t)) (4620693217682128896 : UInt64))) .l = 0 := by
  rw [own_cmpL0, own_num_val] at h
  unfold own_es; rw [if_neg (fun q => h ((own_cmp0 s a t).mp q))]
  exact (own_add_dy s a t).eq (own_ex_dy s a t) rfl _

def QB (r : UInt64) (h0 : Heap) (n0 : Nat) (v : Option Value) (h : Heap) (L : List Loc) : Prop := v = some (.double r) ∧ Fr n0 L ∧ h = h0
theorem own_h1 : decode prog_55_method_4_code 0 = .ok (.dload_n 1, 1) := by decide +kernel
theorem own_h2 : decode prog_55_method_4_code 1 = .ok (.dload_n 3, 1) := by decide +kernel
theorem own_h3 : decode prog_55_method_4_code 2 = .ok (.dload 5, 2) := by decide +kernel
theorem own_h4 : decode prog_55_method_4_code 4 = .ok (.dmul, 1) := by decide +kernel
theorem own_h5 : decode prog_55_method_4_code 5 = .ok (.dadd, 1) := by decide +kernel
theorem own_h6 : decode prog_55_method_4_code 6 = .ok (.dstore 7, 2) := by decide +kernel
theorem own_h7 : decode prog_55_method_4_code 8 = .ok (.dload 7, 2) := by decide +kernel
theorem own_h8 : decode prog_55_method_4_code 10 = .ok (.dconst 0, 1) := by decide +kernel
theorem own_h9 : decode prog_55_method_4_code 11 = .ok (.dcmp .g, 1) := by decide +kernel
theorem own_h10 : decode prog_55_method_4_code 12 = .ok (.ifCond .ge 7, 3) := by decide +kernel
theorem own_h11 : decode prog_55_method_4_code 15 = .ok (.dconst 0, 1) := by decide +kernel
theorem own_h12 : decode prog_55_method_4_code 16 = .ok (.goto 5, 3) := by decide +kernel
theorem own_h13 : decode prog_55_method_4_code 19 = .ok (.dload 7, 2) := by decide +kernel
theorem own_h14 : decode prog_55_method_4_code 21 = .ok (.dreturn, 1) := by decide +kernel
theorem own_h15 : plainName "com/example/ample_gap/amplegap/simulation/Update" = true := by first | (simp [plainName, overriddenIn]; done) | decide +kernel
theorem own_h16 : parseMethodDescriptor "(DDD)D" = some ⟨[.double, .double, .double], some .double⟩ := by decide +kernel
set_option maxRecDepth 65536 in
set_option maxHeartbeats 40000000 in
theorem rmB (l : Launch) (Z : State) (a0 : Array Value) (hw : ∀ d ∈ tables_1, d.before a0 Z = true) (ws : List Jvm.Cond) (a : Addr) (sv av tv : UInt64) (h0 : Heap) (n0 : Nat) (Z0 : n0 ≤ h0.size) (n1 : Jvm.Free.Fl.NoNaN64 (FP.dmul av tv)) (n2 : Jvm.Free.Fl.NoNaN64 (FP.dadd sv (FP.dmul av tv))) :
    MetFree l (⟨"com/example/ample_gap/amplegap/simulation/Update", "endSpeed", "(DDD)D"⟩ : MethodName) (head1 (Jvm.Cond.code (⟨"com/example/ample_gap/amplegap/simulation/Update", "endSpeed", "(DDD)D"⟩ : MethodName) prog_55_method_4_code 9 (some .double) :: ws) ({ frames := 0, cells := 0, slots := 0, locals := 0 } : Room)) (fun ar_ U => ar_ = #[(.ref a), (.double sv), (.double av), (.double tv)] ∧ Z.Warmed39 U.vm ∧ U.heap = h0) (fun _ _ _ _ _ => True) (fun _ U o U' => ∃ v L, o = .returned v ∧ QB (own_es sv av tv) h0 n0 v U'.heap L ∧ FrameEnd U o U' L ({ frames := 0, cells := 0, slots := 0, locals := 0 } : Room).cells ({ frames := 0, cells := 0, slots := 0, locals := 0 } : Room).slots) := by
  refine MetFree.of_bodySF (plainFor_of_name own_h15) hisR ?_
  intro p e s m args below meth c s₁ Bd hml0 hP hK
  obtain ⟨rfl, hZ, hh⟩ := hP
  have hx := Bd.exec
  have hby := Bd.bytes
  have hml : c.maxLocals = 9 := hml0
  have hown : s.vm.findClass "com/example/ample_gap/amplegap/simulation/Update" = some m.cls := findClass_of_methodNamed Bd.named
  have hnm := (name_of_methodNamed Bd.named Bd.method).1
  have X0 : Stand p l e ({ frames := 0, cells := 0, slots := 0, locals := 0 } : Room) s m #[(.ref a), (.double sv), (.double av), (.double tv)] below meth c s₁ [] 0 0 := Stand.of_body Bd
  have e0 : s₁.heap = h0 := by rw [← hh, Bd.state]; rfl
  have N0 := Fr.nil n0
  have k0 : own_K p e below (s₁.setTop (mkF m 0 #[.val (.ref a), .val (.double sv), .second, .val (.double av), .second, .val (.double tv), .second, .unset, .unset] [])) (s₁.setTop (entryFrame m #[(.ref a), (.double sv), (.double av), (.double tv)] 9)) := fun t k => castTop (by clear k; first | (simp [entryFrame, mkF, argsToLocals, Value.category, maxLocals]; done) | rfl) k
  have k1 : own_K p e below (s₁.setTop (mkF m 12 #[.val (.ref a), .val (.double sv), .second, .val (.double av), .second, .val (.double tv), .second, .val (.double (FP.dadd sv (FP.dmul av tv))), .second] [(.int (cmpValue (FP.dcmp (FP.dadd sv (FP.dmul av tv)) FP.dconst0) .g))])) (s₁.setTop (entryFrame m #[(.ref a), (.double sv), (.double av), (.double tv)] 9)) := fun t hh => k0 t (by
    refine XS.dloadN X0.here hx rfl (hb hby own_h1) rfl ?_
    show Steps p.tables e below (s₁.setTop (mkF m 1 #[.val (.ref a), .val (.double sv), .second, .val (.double av), .second, .val (.double tv), .second, .unset, .unset] [(.double sv)])) _
    refine XS.dloadN X0.here hx rfl (hb hby own_h2) rfl ?_
    show Steps p.tables e below (s₁.setTop (mkF m 2 #[.val (.ref a), .val (.double sv), .second, .val (.double av), .second, .val (.double tv), .second, .unset, .unset] [(.double av), (.double sv)])) _
    refine XS.dload X0.here hx rfl (hb hby own_h3) rfl ?_
    show Steps p.tables e below (s₁.setTop (mkF m 4 #[.val (.ref a), .val (.double sv), .second, .val (.double av), .second, .val (.double tv), .second, .unset, .unset] [(.double tv), (.double av), (.double sv)])) _
    refine XS.dmulS X0.here hx rfl (hb hby own_h4) rfl n1 rfl ?_
    show Steps p.tables e below (s₁.setTop (mkF m 5 #[.val (.ref a), .val (.double sv), .second, .val (.double av), .second, .val (.double tv), .second, .unset, .unset] [(.double (FP.dmul av tv)), (.double sv)])) _
    refine XS.daddS X0.here hx rfl (hb hby own_h5) rfl n2 rfl ?_
    show Steps p.tables e below (s₁.setTop (mkF m 6 #[.val (.ref a), .val (.double sv), .second, .val (.double av), .second, .val (.double tv), .second, .unset, .unset] [(.double (FP.dadd sv (FP.dmul av tv)))])) _
    refine XS.dstore X0.here hx rfl (hb hby own_h6) rfl (l' := #[.val (.ref a), .val (.double sv), .second, .val (.double av), .second, .val (.double tv), .second, .val (.double (FP.dadd sv (FP.dmul av tv))), .second]) rfl ?_
    show Steps p.tables e below (s₁.setTop (mkF m 8 #[.val (.ref a), .val (.double sv), .second, .val (.double av), .second, .val (.double tv), .second, .val (.double (FP.dadd sv (FP.dmul av tv))), .second] [])) _
    refine XS.dload X0.here hx rfl (hb hby own_h7) rfl ?_
    show Steps p.tables e below (s₁.setTop (mkF m 10 #[.val (.ref a), .val (.double sv), .second, .val (.double av), .second, .val (.double tv), .second, .val (.double (FP.dadd sv (FP.dmul av tv))), .second] [(.double (FP.dadd sv (FP.dmul av tv)))])) _
    refine XS.dconst0 X0.here hx rfl (hb hby own_h8) rfl ?_
    show Steps p.tables e below (s₁.setTop (mkF m 11 #[.val (.ref a), .val (.double sv), .second, .val (.double av), .second, .val (.double tv), .second, .val (.double (FP.dadd sv (FP.dmul av tv))), .second] [(.double FP.dconst0), (.double (FP.dadd sv (FP.dmul av tv)))])) _
    refine XS.dcmpS X0.here hx rfl (hb hby own_h9) rfl rfl ?_
    show Steps p.tables e below (s₁.setTop (mkF m 12 #[.val (.ref a), .val (.double sv), .second, .val (.double av), .second, .val (.double tv), .second, .val (.double (FP.dadd sv (FP.dmul av tv))), .second] [(.int (cmpValue (FP.dcmp (FP.dadd sv (FP.dmul av tv)) FP.dconst0) .g))])) _
    exact hh)
  by_cases c12 : (cmpValue (FP.dcmp (FP.dadd sv (FP.dmul av tv)) FP.dconst0) .g) < 0
  ·
    have k2 : own_K p e below (s₁.setTop (mkF m 21 #[.val (.ref a), .val (.double sv), .second, .val (.double av), .second, .val (.double tv), .second, .val (.double (FP.dadd sv (FP.dmul av tv))), .second] [(.double FP.dconst0)])) (s₁.setTop (entryFrame m #[(.ref a), (.double sv), (.double av), (.double tv)] 9)) := fun t hh => k1 t (by
      refine XS.ifNo X0.here hx rfl (hb hby own_h10) rfl (own_ifF_ge c12) ?_
      show Steps p.tables e below (s₁.setTop (mkF m 15 #[.val (.ref a), .val (.double sv), .second, .val (.double av), .second, .val (.double tv), .second, .val (.double (FP.dadd sv (FP.dmul av tv))), .second] [])) _
      refine XS.dconst0 X0.here hx rfl (hb hby own_h11) rfl ?_
      show Steps p.tables e below (s₁.setTop (mkF m 16 #[.val (.ref a), .val (.double sv), .second, .val (.double av), .second, .val (.double tv), .second, .val (.double (FP.dadd sv (FP.dmul av tv))), .second] [(.double FP.dconst0)])) _
      refine XS.goto X0.here hx rfl (pc0 := 16) (pc' := 21) rfl (hb hby own_h12) (by decide) (by decide) ?_
      show Steps p.tables e below (s₁.setTop (mkF m 21 #[.val (.ref a), .val (.double sv), .second, .val (.double av), .second, .val (.double tv), .second, .val (.double (FP.dadd sv (FP.dmul av tv))), .second] [(.double FP.dconst0)])) _
      exact hh)
    obtain ⟨fs, hr, hrun, hended, hW, hsame⟩ := X0.leave (v := some (.double FP.dconst0)) (fun h => by rw [Bd.returns] at h; cases h)
    refine ⟨_, _, k2 _ (retOut X0 hx (t := .double) Bd.returns rfl (Or.inr (Or.inr (Or.inl ⟨rfl, rfl, _, rfl⟩))) (hb hby own_h14) hr), hrun, hended, _, _, rfl, ?_, ⟨_, rfl⟩, hW, hsame.mono (by decide) (by decide)⟩
    show QB (own_es sv av tv) h0 n0 _ s₁.heap _
    rw [e0]
    exact ⟨by simp only [own_es, c12, if_true, if_false], N0, rfl⟩
  ·
    have k3 : own_K p e below (s₁.setTop (mkF m 21 #[.val (.ref a), .val (.double sv), .second, .val (.double av), .second, .val (.double tv), .second, .val (.double (FP.dadd sv (FP.dmul av tv))), .second] [(.double (FP.dadd sv (FP.dmul av tv)))])) (s₁.setTop (entryFrame m #[(.ref a), (.double sv), (.double av), (.double tv)] 9)) := fun t hh => k1 t (by
      refine XS.ifYes X0.here hx rfl (pc0 := 12) (pc' := 19) rfl (hb hby own_h10) rfl (own_ifT_ge c12) (by decide) (by decide) ?_
      show Steps p.tables e below (s₁.setTop (mkF m 19 #[.val (.ref a), .val (.double sv), .second, .val (.double av), .second, .val (.double tv), .second, .val (.double (FP.dadd sv (FP.dmul av tv))), .second] [])) _
      refine XS.dload X0.here hx rfl (hb hby own_h13) rfl ?_
      show Steps p.tables e below (s₁.setTop (mkF m 21 #[.val (.ref a), .val (.double sv), .second, .val (.double av), .second, .val (.double tv), .second, .val (.double (FP.dadd sv (FP.dmul av tv))), .second] [(.double (FP.dadd sv (FP.dmul av tv)))])) _
      exact hh)
    obtain ⟨fs, hr, hrun, hended, hW, hsame⟩ := X0.leave (v := some (.double (FP.dadd sv (FP.dmul av tv)))) (fun h => by rw [Bd.returns] at h; cases h)
    refine ⟨_, _, k3 _ (retOut X0 hx (t := .double) Bd.returns rfl (Or.inr (Or.inr (Or.inl ⟨rfl, rfl, _, rfl⟩))) (hb hby own_h14) hr), hrun, hended, _, _, rfl, ?_, ⟨_, rfl⟩, hW, hsame.mono (by decide) (by decide)⟩
    show QB (own_es sv av tv) h0 n0 _ s₁.heap _
    rw [e0]
    exact ⟨by simp only [own_es, c12, if_true, if_false], N0, rfl⟩
def QL (h0 : Heap) (n0 : Nat) (v : Option Value) (h : Heap) (L : List Loc) : Prop := v = some (.int 1) ∧ Fr n0 L
theorem own_h17 : plainName "com/example/ample_gap/amplegap/simulation/UpdateEndSpeedPinLaw" = true := by first | (simp [plainName, overriddenIn]; done) | decide +kernel
set_option maxRecDepth 65536 in
set_option maxHeartbeats 40000000 in
theorem rmL (l : Launch) (Z : State) (a0 : Array Value) (hw : ∀ d ∈ tables_1, d.before a0 Z = true) (ws : List Jvm.Cond) (sr av tr kv : Int32) (h0 : Heap) (n0 : Nat) (Z0 : n0 ≤ h0.size) (aE aC : Addr) (sE : Sta Z h0 "com/example/ample_gap/amplegap/simulation/Update" "END_SPEED" "Lcom/example/ample_gap/amplegap/simulation/Update;" (.ref aE)) (sC : Sta Z h0 "com/example/ample_gap/amplegap/simulation/Update" "CONSTANT_ACCELERATION" "Lcom/example/ample_gap/amplegap/simulation/Update;" (.ref aC)) (xE : Exa Z h0 aE "com/example/ample_gap/amplegap/simulation/Update$2") (xC : Exa Z h0 aC "com/example/ample_gap/amplegap/simulation/Update$1") :
    MetFree l x (head1 (Jvm.Cond.code x code maxLocals ret :: ws) room_1) (fun ar_ U => ar_ = #[(.int sr), (.int av), (.int tr), (.int kv)] ∧ Z.Warmed39 U.vm ∧ U.heap = h0) (fun _ _ _ _ _ => True) (fun _ U o U' => ∃ v L, o = .returned v ∧ QL h0 n0 v U'.heap L ∧ FrameEnd U o U' L 0 0) := by
  refine MetFree.of_bodySF (plainFor_of_name own_h17) hisR ?_
  intro p e s m args below meth c s₁ Bd hml0 hP hK
  obtain ⟨rfl, hZ, hh⟩ := hP
  have hx := Bd.exec
  have hby := Bd.bytes
  have hml : c.maxLocals = 19 := hml0
  have hown : s.vm.findClass "com/example/ample_gap/amplegap/simulation/UpdateEndSpeedPinLaw" = some m.cls := findClass_of_methodNamed Bd.named
  have hnm := (name_of_methodNamed Bd.named Bd.method).1
  have X0 : Stand p l e room_1 s m #[(.int sr), (.int av), (.int tr), (.int kv)] below meth c s₁ [] 0 0 := Stand.of_body Bd
  have e0 : s₁.heap = h0 := by rw [← hh, Bd.state]; rfl
  have N0 := Fr.nil n0
  have k0 : own_K p e below (s₁.setTop (mkF m 0 #[.val (.int sr), .val (.int av), .val (.int tr), .val (.int kv), .unset, .unset, .unset, .unset, .unset, .unset, .unset, .unset, .unset, .unset, .unset, .unset, .unset, .unset, .unset] [])) (s₁.setTop (entryFrame m #[(.int sr), (.int av), (.int tr), (.int kv)] maxLocals)) := fun t k => castTop (by clear k; first | (simp [entryFrame, mkF, argsToLocals, Value.category, maxLocals]; done) | rfl) k
  have k1 : own_K p e below (s₁.setTop (mkF m 3 #[.val (.int sr), .val (.int av), .val (.int tr), .val (.int kv), .unset, .unset, .unset, .unset, .unset, .unset, .unset, .unset, .unset, .unset, .unset, .unset, .unset, .unset, .unset] [(.int (kv &&& (1 : Int32)))])) (s₁.setTop (entryFrame m #[(.int sr), (.int av), (.int tr), (.int kv)] maxLocals)) := fun t hh => k0 t (by
    refine XS.iloadN X0.here hx rfl (hb hby at_0) rfl ?_
    show Steps p.tables e below (s₁.setTop (mkF m 1 #[.val (.int sr), .val (.int av), .val (.int tr), .val (.int kv), .unset, .unset, .unset, .unset, .unset, .unset, .unset, .unset, .unset, .unset, .unset, .unset, .unset, .unset, .unset] [(.int kv)])) _
    refine XS.iconst X0.here hx rfl (hb hby at_1) ?_
    show Steps p.tables e below (s₁.setTop (mkF m 2 #[.val (.int sr), .val (.int av), .val (.int tr), .val (.int kv), .unset, .unset, .unset, .unset, .unset, .unset, .unset, .unset, .unset, .unset, .unset, .unset, .unset, .unset, .unset] [(.int (1 : Int32)), (.int kv)])) _
    refine XS.iand X0.here hx rfl (hb hby at_2) rfl ?_
    show Steps p.tables e below (s₁.setTop (mkF m 3 #[.val (.int sr), .val (.int av), .val (.int tr), .val (.int kv), .unset, .unset, .unset, .unset, .unset, .unset, .unset, .unset, .unset, .unset, .unset, .unset, .unset, .unset, .unset] [(.int (kv &&& (1 : Int32)))])) _
    exact hh)
  by_cases c3 : (kv &&& (1 : Int32)) = 0
  ·
    have k2 : own_K p e below (s₁.setTop (mkF m 6 #[.val (.int sr), .val (.int av), .val (.int tr), .val (.int kv), .unset, .unset, .unset, .unset, .unset, .unset, .unset, .unset, .unset, .unset, .unset, .unset, .unset, .unset, .unset] [])) (s₁.setTop (entryFrame m #[(.int sr), (.int av), (.int tr), (.int kv)] maxLocals)) := fun t hh => k1 t (by
      refine XS.ifNo X0.here hx rfl (hb hby at_3) rfl (own_ifF_ne c3) ?_
      show Steps p.tables e below (s₁.setTop (mkF m 6 #[.val (.int sr), .val (.int av), .val (.int tr), .val (.int kv), .unset, .unset, .unset, .unset, .unset, .unset, .unset, .unset, .unset, .unset, .unset, .unset, .unset, .unset, .unset] [])) _
      exact hh)
    obtain ⟨T1, X2, e3, st4⟩ := getS X0 hx hZ hown (host := "") (wT hw 13 rfl) Via.refl e0 sC (g := (mkF m 6 #[.val (.int sr), .val (.int av), .val (.int tr), .val (.int kv), .unset, .unset, .unset, .unset, .unset, .unset, .unset, .unset, .unset, .unset, .unset, .unset, .unset, .unset, .unset] [])) rfl (hb hby at_6)
    have k3 : own_K p e below (T1.setTop (mkF m 9 #[.val (.int sr), .val (.int av), .val (.int tr), .val (.int kv), .unset, .unset, .unset, .unset, .unset, .unset, .unset, .unset, .unset, .unset, .unset, .unset, .unset, .unset, .unset] [(.ref aC)])) (s₁.setTop (entryFrame m #[(.int sr), (.int av), (.int tr), (.int kv)] maxLocals)) := fun t hh => k2 t (st4 t hh)
    have k4 : own_K p e below (T1.setTop (mkF m 61 #[.val (.int sr), .val (.int av), .val (.int tr), .val (.int kv), .val (.ref aC), .val (.int (sr &&& (2147483647 : Int32))), .val (.int ((tr &&& (2097151 : Int32)) + (1 : Int32))), .val (.double (FP.ddiv (FP.i2d (sr &&& (2147483647 : Int32))) (4616189618054758400 : UInt64))), .second, .val (.double (FP.i2d av)), .second, .val (.double (FP.ddiv (FP.i2d ((tr &&& (2097151 : Int32)) + (1 : Int32))) (4620693217682128896 : UInt64))), .second, .unset, .unset, .unset, .unset, .unset, .unset] [(.double (FP.ddiv (FP.i2d ((tr &&& (2097151 : Int32)) + (1 : Int32))) (4620693217682128896 : UInt64))), (.double (FP.i2d av)), (.double (FP.ddiv (FP.i2d (sr &&& (2147483647 : Int32))) (4616189618054758400 : UInt64))), (.ref aC)])) (s₁.setTop (entryFrame m #[(.int sr), (.int av), (.int tr), (.int kv)] maxLocals)) := fun t hh => k3 t (by
      refine XS.goto X2.here hx rfl (pc0 := 9) (pc' := 15) rfl (hb hby at_9) (by decide) (by decide) ?_
      show Steps p.tables e below (T1.setTop (mkF m 15 #[.val (.int sr), .val (.int av), .val (.int tr), .val (.int kv), .unset, .unset, .unset, .unset, .unset, .unset, .unset, .unset, .unset, .unset, .unset, .unset, .unset, .unset, .unset] [(.ref aC)])) _
      refine XS.astore X2.here hx rfl (hb hby at_15) rfl rfl (l' := #[.val (.int sr), .val (.int av), .val (.int tr), .val (.int kv), .val (.ref aC), .unset, .unset, .unset, .unset, .unset, .unset, .unset, .unset, .unset, .unset, .unset, .unset, .unset, .unset]) rfl ?_
      show Steps p.tables e below (T1.setTop (mkF m 17 #[.val (.int sr), .val (.int av), .val (.int tr), .val (.int kv), .val (.ref aC), .unset, .unset, .unset, .unset, .unset, .unset, .unset, .unset, .unset, .unset, .unset, .unset, .unset, .unset] [])) _
      refine XS.iloadN X2.here hx rfl (hb hby at_17) rfl ?_
      show Steps p.tables e below (T1.setTop (mkF m 18 #[.val (.int sr), .val (.int av), .val (.int tr), .val (.int kv), .val (.ref aC), .unset, .unset, .unset, .unset, .unset, .unset, .unset, .unset, .unset, .unset, .unset, .unset, .unset, .unset] [(.int sr)])) _
      refine X2.ldcInt hx hown (mvT hZ (wT hw 3 rfl)) (g := (mkF m 18 #[.val (.int sr), .val (.int av), .val (.int tr), .val (.int kv), .val (.ref aC), .unset, .unset, .unset, .unset, .unset, .unset, .unset, .unset, .unset, .unset, .unset, .unset, .unset, .unset] [(.int sr)])) rfl (hb hby at_18) _ ?_
      show Steps p.tables e below (T1.setTop (mkF m 20 #[.val (.int sr), .val (.int av), .val (.int tr), .val (.int kv), .val (.ref aC), .unset, .unset, .unset, .unset, .unset, .unset, .unset, .unset, .unset, .unset, .unset, .unset, .unset, .unset] [(.int (2147483647 : Int32)), (.int sr)])) _
      refine XS.iand X2.here hx rfl (hb hby at_20) rfl ?_
      show Steps p.tables e below (T1.setTop (mkF m 21 #[.val (.int sr), .val (.int av), .val (.int tr), .val (.int kv), .val (.ref aC), .unset, .unset, .unset, .unset, .unset, .unset, .unset, .unset, .unset, .unset, .unset, .unset, .unset, .unset] [(.int (sr &&& (2147483647 : Int32)))])) _
      refine XS.istore X2.here hx rfl (hb hby at_21) rfl (l' := #[.val (.int sr), .val (.int av), .val (.int tr), .val (.int kv), .val (.ref aC), .val (.int (sr &&& (2147483647 : Int32))), .unset, .unset, .unset, .unset, .unset, .unset, .unset, .unset, .unset, .unset, .unset, .unset, .unset]) rfl ?_
      show Steps p.tables e below (T1.setTop (mkF m 23 #[.val (.int sr), .val (.int av), .val (.int tr), .val (.int kv), .val (.ref aC), .val (.int (sr &&& (2147483647 : Int32))), .unset, .unset, .unset, .unset, .unset, .unset, .unset, .unset, .unset, .unset, .unset, .unset, .unset] [])) _
      refine XS.iloadN X2.here hx rfl (hb hby at_23) rfl ?_
      show Steps p.tables e below (T1.setTop (mkF m 24 #[.val (.int sr), .val (.int av), .val (.int tr), .val (.int kv), .val (.ref aC), .val (.int (sr &&& (2147483647 : Int32))), .unset, .unset, .unset, .unset, .unset, .unset, .unset, .unset, .unset, .unset, .unset, .unset, .unset] [(.int tr)])) _
      refine X2.ldcInt hx hown (mvT hZ (wT hw 4 rfl)) (g := (mkF m 24 #[.val (.int sr), .val (.int av), .val (.int tr), .val (.int kv), .val (.ref aC), .val (.int (sr &&& (2147483647 : Int32))), .unset, .unset, .unset, .unset, .unset, .unset, .unset, .unset, .unset, .unset, .unset, .unset, .unset] [(.int tr)])) rfl (hb hby at_24) _ ?_
      show Steps p.tables e below (T1.setTop (mkF m 26 #[.val (.int sr), .val (.int av), .val (.int tr), .val (.int kv), .val (.ref aC), .val (.int (sr &&& (2147483647 : Int32))), .unset, .unset, .unset, .unset, .unset, .unset, .unset, .unset, .unset, .unset, .unset, .unset, .unset] [(.int (2097151 : Int32)), (.int tr)])) _
      refine XS.iand X2.here hx rfl (hb hby at_26) rfl ?_
      show Steps p.tables e below (T1.setTop (mkF m 27 #[.val (.int sr), .val (.int av), .val (.int tr), .val (.int kv), .val (.ref aC), .val (.int (sr &&& (2147483647 : Int32))), .unset, .unset, .unset, .unset, .unset, .unset, .unset, .unset, .unset, .unset, .unset, .unset, .unset] [(.int (tr &&& (2097151 : Int32)))])) _
      refine XS.iconst X2.here hx rfl (hb hby at_27) ?_
      show Steps p.tables e below (T1.setTop (mkF m 28 #[.val (.int sr), .val (.int av), .val (.int tr), .val (.int kv), .val (.ref aC), .val (.int (sr &&& (2147483647 : Int32))), .unset, .unset, .unset, .unset, .unset, .unset, .unset, .unset, .unset, .unset, .unset, .unset, .unset] [(.int (1 : Int32)), (.int (tr &&& (2097151 : Int32)))])) _
      refine XS.iadd X2.here hx rfl (hb hby at_28) rfl ?_
      show Steps p.tables e below (T1.setTop (mkF m 29 #[.val (.int sr), .val (.int av), .val (.int tr), .val (.int kv), .val (.ref aC), .val (.int (sr &&& (2147483647 : Int32))), .unset, .unset, .unset, .unset, .unset, .unset, .unset, .unset, .unset, .unset, .unset, .unset, .unset] [(.int ((tr &&& (2097151 : Int32)) + (1 : Int32)))])) _
      refine XS.istore X2.here hx rfl (hb hby at_29) rfl (l' := #[.val (.int sr), .val (.int av), .val (.int tr), .val (.int kv), .val (.ref aC), .val (.int (sr &&& (2147483647 : Int32))), .val (.int ((tr &&& (2097151 : Int32)) + (1 : Int32))), .unset, .unset, .unset, .unset, .unset, .unset, .unset, .unset, .unset, .unset, .unset, .unset]) rfl ?_
      show Steps p.tables e below (T1.setTop (mkF m 31 #[.val (.int sr), .val (.int av), .val (.int tr), .val (.int kv), .val (.ref aC), .val (.int (sr &&& (2147483647 : Int32))), .val (.int ((tr &&& (2097151 : Int32)) + (1 : Int32))), .unset, .unset, .unset, .unset, .unset, .unset, .unset, .unset, .unset, .unset, .unset, .unset] [])) _
      refine XS.iload X2.here hx rfl (hb hby at_31) rfl ?_
      show Steps p.tables e below (T1.setTop (mkF m 33 #[.val (.int sr), .val (.int av), .val (.int tr), .val (.int kv), .val (.ref aC), .val (.int (sr &&& (2147483647 : Int32))), .val (.int ((tr &&& (2097151 : Int32)) + (1 : Int32))), .unset, .unset, .unset, .unset, .unset, .unset, .unset, .unset, .unset, .unset, .unset, .unset] [(.int (sr &&& (2147483647 : Int32)))])) _
      refine XS.i2dS X2.here hx rfl (hb hby at_33) rfl rfl ?_
      show Steps p.tables e below (T1.setTop (mkF m 34 #[.val (.int sr), .val (.int av), .val (.int tr), .val (.int kv), .val (.ref aC), .val (.int (sr &&& (2147483647 : Int32))), .val (.int ((tr &&& (2097151 : Int32)) + (1 : Int32))), .unset, .unset, .unset, .unset, .unset, .unset, .unset, .unset, .unset, .unset, .unset, .unset] [(.double (FP.i2d (sr &&& (2147483647 : Int32))))])) _
      refine X2.ldc2DoubleC hx hown (mvT hZ (wT hw 5 rfl)) (g := (mkF m 34 #[.val (.int sr), .val (.int av), .val (.int tr), .val (.int kv), .val (.ref aC), .val (.int (sr &&& (2147483647 : Int32))), .val (.int ((tr &&& (2097151 : Int32)) + (1 : Int32))), .unset, .unset, .unset, .unset, .unset, .unset, .unset, .unset, .unset, .unset, .unset, .unset] [(.double (FP.i2d (sr &&& (2147483647 : Int32))))])) rfl (hb hby at_34) _ ?_
      show Steps p.tables e below (T1.setTop (mkF m 37 #[.val (.int sr), .val (.int av), .val (.int tr), .val (.int kv), .val (.ref aC), .val (.int (sr &&& (2147483647 : Int32))), .val (.int ((tr &&& (2097151 : Int32)) + (1 : Int32))), .unset, .unset, .unset, .unset, .unset, .unset, .unset, .unset, .unset, .unset, .unset, .unset] [(.double (4616189618054758400 : UInt64)), (.double (FP.i2d (sr &&& (2147483647 : Int32))))])) _
      refine XS.ddivS X2.here hx rfl (hb hby at_37) rfl (own_sp_dy sr).no rfl ?_
      show Steps p.tables e below (T1.setTop (mkF m 38 #[.val (.int sr), .val (.int av), .val (.int tr), .val (.int kv), .val (.ref aC), .val (.int (sr &&& (2147483647 : Int32))), .val (.int ((tr &&& (2097151 : Int32)) + (1 : Int32))), .unset, .unset, .unset, .unset, .unset, .unset, .unset, .unset, .unset, .unset, .unset, .unset] [(.double (FP.ddiv (FP.i2d (sr &&& (2147483647 : Int32))) (4616189618054758400 : UInt64)))])) _
      refine XS.dstore X2.here hx rfl (hb hby at_38) rfl (l' := #[.val (.int sr), .val (.int av), .val (.int tr), .val (.int kv), .val (.ref aC), .val (.int (sr &&& (2147483647 : Int32))), .val (.int ((tr &&& (2097151 : Int32)) + (1 : Int32))), .val (.double (FP.ddiv (FP.i2d (sr &&& (2147483647 : Int32))) (4616189618054758400 : UInt64))), .second, .unset, .unset, .unset, .unset, .unset, .unset, .unset, .unset, .unset, .unset]) rfl ?_
      show Steps p.tables e below (T1.setTop (mkF m 40 #[.val (.int sr), .val (.int av), .val (.int tr), .val (.int kv), .val (.ref aC), .val (.int (sr &&& (2147483647 : Int32))), .val (.int ((tr &&& (2097151 : Int32)) + (1 : Int32))), .val (.double (FP.ddiv (FP.i2d (sr &&& (2147483647 : Int32))) (4616189618054758400 : UInt64))), .second, .unset, .unset, .unset, .unset, .unset, .unset, .unset, .unset, .unset, .unset] [])) _
      refine XS.iloadN X2.here hx rfl (hb hby at_40) rfl ?_
      show Steps p.tables e below (T1.setTop (mkF m 41 #[.val (.int sr), .val (.int av), .val (.int tr), .val (.int kv), .val (.ref aC), .val (.int (sr &&& (2147483647 : Int32))), .val (.int ((tr &&& (2097151 : Int32)) + (1 : Int32))), .val (.double (FP.ddiv (FP.i2d (sr &&& (2147483647 : Int32))) (4616189618054758400 : UInt64))), .second, .unset, .unset, .unset, .unset, .unset, .unset, .unset, .unset, .unset, .unset] [(.int av)])) _
      refine XS.i2dS X2.here hx rfl (hb hby at_41) rfl rfl ?_
      show Steps p.tables e below (T1.setTop (mkF m 42 #[.val (.int sr), .val (.int av), .val (.int tr), .val (.int kv), .val (.ref aC), .val (.int (sr &&& (2147483647 : Int32))), .val (.int ((tr &&& (2097151 : Int32)) + (1 : Int32))), .val (.double (FP.ddiv (FP.i2d (sr &&& (2147483647 : Int32))) (4616189618054758400 : UInt64))), .second, .unset, .unset, .unset, .unset, .unset, .unset, .unset, .unset, .unset, .unset] [(.double (FP.i2d av))])) _
      refine XS.dstore X2.here hx rfl (hb hby at_42) rfl (l' := #[.val (.int sr), .val (.int av), .val (.int tr), .val (.int kv), .val (.ref aC), .val (.int (sr &&& (2147483647 : Int32))), .val (.int ((tr &&& (2097151 : Int32)) + (1 : Int32))), .val (.double (FP.ddiv (FP.i2d (sr &&& (2147483647 : Int32))) (4616189618054758400 : UInt64))), .second, .val (.double (FP.i2d av)), .second, .unset, .unset, .unset, .unset, .unset, .unset, .unset, .unset]) rfl ?_
      show Steps p.tables e below (T1.setTop (mkF m 44 #[.val (.int sr), .val (.int av), .val (.int tr), .val (.int kv), .val (.ref aC), .val (.int (sr &&& (2147483647 : Int32))), .val (.int ((tr &&& (2097151 : Int32)) + (1 : Int32))), .val (.double (FP.ddiv (FP.i2d (sr &&& (2147483647 : Int32))) (4616189618054758400 : UInt64))), .second, .val (.double (FP.i2d av)), .second, .unset, .unset, .unset, .unset, .unset, .unset, .unset, .unset] [])) _
      refine XS.iload X2.here hx rfl (hb hby at_44) rfl ?_
      show Steps p.tables e below (T1.setTop (mkF m 46 #[.val (.int sr), .val (.int av), .val (.int tr), .val (.int kv), .val (.ref aC), .val (.int (sr &&& (2147483647 : Int32))), .val (.int ((tr &&& (2097151 : Int32)) + (1 : Int32))), .val (.double (FP.ddiv (FP.i2d (sr &&& (2147483647 : Int32))) (4616189618054758400 : UInt64))), .second, .val (.double (FP.i2d av)), .second, .unset, .unset, .unset, .unset, .unset, .unset, .unset, .unset] [(.int ((tr &&& (2097151 : Int32)) + (1 : Int32)))])) _
      refine XS.i2dS X2.here hx rfl (hb hby at_46) rfl rfl ?_
      show Steps p.tables e below (T1.setTop (mkF m 47 #[.val (.int sr), .val (.int av), .val (.int tr), .val (.int kv), .val (.ref aC), .val (.int (sr &&& (2147483647 : Int32))), .val (.int ((tr &&& (2097151 : Int32)) + (1 : Int32))), .val (.double (FP.ddiv (FP.i2d (sr &&& (2147483647 : Int32))) (4616189618054758400 : UInt64))), .second, .val (.double (FP.i2d av)), .second, .unset, .unset, .unset, .unset, .unset, .unset, .unset, .unset] [(.double (FP.i2d ((tr &&& (2097151 : Int32)) + (1 : Int32))))])) _
      refine X2.ldc2DoubleC hx hown (mvT hZ (wT hw 6 rfl)) (g := (mkF m 47 #[.val (.int sr), .val (.int av), .val (.int tr), .val (.int kv), .val (.ref aC), .val (.int (sr &&& (2147483647 : Int32))), .val (.int ((tr &&& (2097151 : Int32)) + (1 : Int32))), .val (.double (FP.ddiv (FP.i2d (sr &&& (2147483647 : Int32))) (4616189618054758400 : UInt64))), .second, .val (.double (FP.i2d av)), .second, .unset, .unset, .unset, .unset, .unset, .unset, .unset, .unset] [(.double (FP.i2d ((tr &&& (2097151 : Int32)) + (1 : Int32))))])) rfl (hb hby at_47) _ ?_
      show Steps p.tables e below (T1.setTop (mkF m 50 #[.val (.int sr), .val (.int av), .val (.int tr), .val (.int kv), .val (.ref aC), .val (.int (sr &&& (2147483647 : Int32))), .val (.int ((tr &&& (2097151 : Int32)) + (1 : Int32))), .val (.double (FP.ddiv (FP.i2d (sr &&& (2147483647 : Int32))) (4616189618054758400 : UInt64))), .second, .val (.double (FP.i2d av)), .second, .unset, .unset, .unset, .unset, .unset, .unset, .unset, .unset] [(.double (4620693217682128896 : UInt64)), (.double (FP.i2d ((tr &&& (2097151 : Int32)) + (1 : Int32))))])) _
      refine XS.ddivS X2.here hx rfl (hb hby at_50) rfl (own_ts_dy tr).no rfl ?_
      show Steps p.tables e below (T1.setTop (mkF m 51 #[.val (.int sr), .val (.int av), .val (.int tr), .val (.int kv), .val (.ref aC), .val (.int (sr &&& (2147483647 : Int32))), .val (.int ((tr &&& (2097151 : Int32)) + (1 : Int32))), .val (.double (FP.ddiv (FP.i2d (sr &&& (2147483647 : Int32))) (4616189618054758400 : UInt64))), .second, .val (.double (FP.i2d av)), .second, .unset, .unset, .unset, .unset, .unset, .unset, .unset, .unset] [(.double (FP.ddiv (FP.i2d ((tr &&& (2097151 : Int32)) + (1 : Int32))) (4620693217682128896 : UInt64)))])) _
      refine XS.dstore X2.here hx rfl (hb hby at_51) rfl (l' := #[.val (.int sr), .val (.int av), .val (.int tr), .val (.int kv), .val (.ref aC), .val (.int (sr &&& (2147483647 : Int32))), .val (.int ((tr &&& (2097151 : Int32)) + (1 : Int32))), .val (.double (FP.ddiv (FP.i2d (sr &&& (2147483647 : Int32))) (4616189618054758400 : UInt64))), .second, .val (.double (FP.i2d av)), .second, .val (.double (FP.ddiv (FP.i2d ((tr &&& (2097151 : Int32)) + (1 : Int32))) (4620693217682128896 : UInt64))), .second, .unset, .unset, .unset, .unset, .unset, .unset]) rfl ?_
      show Steps p.tables e below (T1.setTop (mkF m 53 #[.val (.int sr), .val (.int av), .val (.int tr), .val (.int kv), .val (.ref aC), .val (.int (sr &&& (2147483647 : Int32))), .val (.int ((tr &&& (2097151 : Int32)) + (1 : Int32))), .val (.double (FP.ddiv (FP.i2d (sr &&& (2147483647 : Int32))) (4616189618054758400 : UInt64))), .second, .val (.double (FP.i2d av)), .second, .val (.double (FP.ddiv (FP.i2d ((tr &&& (2097151 : Int32)) + (1 : Int32))) (4620693217682128896 : UInt64))), .second, .unset, .unset, .unset, .unset, .unset, .unset] [])) _
      refine XS.aload X2.here hx rfl (hb hby at_53) rfl rfl ?_
      show Steps p.tables e below (T1.setTop (mkF m 55 #[.val (.int sr), .val (.int av), .val (.int tr), .val (.int kv), .val (.ref aC), .val (.int (sr &&& (2147483647 : Int32))), .val (.int ((tr &&& (2097151 : Int32)) + (1 : Int32))), .val (.double (FP.ddiv (FP.i2d (sr &&& (2147483647 : Int32))) (4616189618054758400 : UInt64))), .second, .val (.double (FP.i2d av)), .second, .val (.double (FP.ddiv (FP.i2d ((tr &&& (2097151 : Int32)) + (1 : Int32))) (4620693217682128896 : UInt64))), .second, .unset, .unset, .unset, .unset, .unset, .unset] [(.ref aC)])) _
      refine XS.dload X2.here hx rfl (hb hby at_55) rfl ?_
      show Steps p.tables e below (T1.setTop (mkF m 57 #[.val (.int sr), .val (.int av), .val (.int tr), .val (.int kv), .val (.ref aC), .val (.int (sr &&& (2147483647 : Int32))), .val (.int ((tr &&& (2097151 : Int32)) + (1 : Int32))), .val (.double (FP.ddiv (FP.i2d (sr &&& (2147483647 : Int32))) (4616189618054758400 : UInt64))), .second, .val (.double (FP.i2d av)), .second, .val (.double (FP.ddiv (FP.i2d ((tr &&& (2097151 : Int32)) + (1 : Int32))) (4620693217682128896 : UInt64))), .second, .unset, .unset, .unset, .unset, .unset, .unset] [(.double (FP.ddiv (FP.i2d (sr &&& (2147483647 : Int32))) (4616189618054758400 : UInt64))), (.ref aC)])) _
      refine XS.dload X2.here hx rfl (hb hby at_57) rfl ?_
      show Steps p.tables e below (T1.setTop (mkF m 59 #[.val (.int sr), .val (.int av), .val (.int tr), .val (.int kv), .val (.ref aC), .val (.int (sr &&& (2147483647 : Int32))), .val (.int ((tr &&& (2097151 : Int32)) + (1 : Int32))), .val (.double (FP.ddiv (FP.i2d (sr &&& (2147483647 : Int32))) (4616189618054758400 : UInt64))), .second, .val (.double (FP.i2d av)), .second, .val (.double (FP.ddiv (FP.i2d ((tr &&& (2097151 : Int32)) + (1 : Int32))) (4620693217682128896 : UInt64))), .second, .unset, .unset, .unset, .unset, .unset, .unset] [(.double (FP.i2d av)), (.double (FP.ddiv (FP.i2d (sr &&& (2147483647 : Int32))) (4616189618054758400 : UInt64))), (.ref aC)])) _
      refine XS.dload X2.here hx rfl (hb hby at_59) rfl ?_
      show Steps p.tables e below (T1.setTop (mkF m 61 #[.val (.int sr), .val (.int av), .val (.int tr), .val (.int kv), .val (.ref aC), .val (.int (sr &&& (2147483647 : Int32))), .val (.int ((tr &&& (2097151 : Int32)) + (1 : Int32))), .val (.double (FP.ddiv (FP.i2d (sr &&& (2147483647 : Int32))) (4616189618054758400 : UInt64))), .second, .val (.double (FP.i2d av)), .second, .val (.double (FP.ddiv (FP.i2d ((tr &&& (2097151 : Int32)) + (1 : Int32))) (4620693217682128896 : UInt64))), .second, .unset, .unset, .unset, .unset, .unset, .unset] [(.double (FP.ddiv (FP.i2d ((tr &&& (2097151 : Int32)) + (1 : Int32))) (4620693217682128896 : UInt64))), (.double (FP.i2d av)), (.double (FP.ddiv (FP.i2d (sr &&& (2147483647 : Int32))) (4616189618054758400 : UInt64))), (.ref aC)])) _
      exact hh)
    obtain ⟨cq16, kq17, qa18, qb19, qc20⟩ := isOf hZ e3 xC
    obtain ⟨_, _, ⟨T5, L6, k_7, n_8⟩, -, X9, ⟨Lc10, hQ11, l_12, y_13, z_14⟩, st15⟩ := X2.virtualBack hx (y := (⟨"com/example/ample_gap/amplegap/simulation/Update", "endSpeed", "(DDD)D"⟩ : MethodName)) (z := (⟨"com/example/ample_gap/amplegap/simulation/Update", "endSpeed", "(DDD)D"⟩ : MethodName)) hown (mvT hZ (wT hw 7 rfl)) (mvT hZ (wT hw 8 rfl)) (notFace_of_selects (args := #[]) (mvT hZ (wT hw 15 rfl))) (mvT hZ (wT hw 15 rfl)) (mvT hZ (wT hw 9 rfl)) (by decide) (backOf (W := 0) (rmB l Z a0 hw [] aC (FP.ddiv (FP.i2d (sr &&& (2147483647 : Int32))) (4616189618054758400 : UInt64)) (FP.i2d av) (FP.ddiv (FP.i2d ((tr &&& (2097151 : Int32)) + (1 : Int32))) (4620693217682128896 : UInt64)) h0 n0 Z0 (own_mul_dy av tr).no (own_add_dy sr av tr).no) hZ (wT hw 11 rfl) (wT hw 1 rfl) (by decide) (by decide)) qa18 qc20 (g := (mkF m 61 #[.val (.int sr), .val (.int av), .val (.int tr), .val (.int kv), .val (.ref aC), .val (.int (sr &&& (2147483647 : Int32))), .val (.int ((tr &&& (2097151 : Int32)) + (1 : Int32))), .val (.double (FP.ddiv (FP.i2d (sr &&& (2147483647 : Int32))) (4616189618054758400 : UInt64))), .second, .val (.double (FP.i2d av)), .second, .val (.double (FP.ddiv (FP.i2d ((tr &&& (2097151 : Int32)) + (1 : Int32))) (4620693217682128896 : UInt64))), .second, .unset, .unset, .unset, .unset, .unset, .unset] [(.double (FP.ddiv (FP.i2d ((tr &&& (2097151 : Int32)) + (1 : Int32))) (4620693217682128896 : UInt64))), (.double (FP.i2d av)), (.double (FP.ddiv (FP.i2d (sr &&& (2147483647 : Int32))) (4616189618054758400 : UInt64))), (.ref aC)])) rfl (by rw [hml]; rfl) (Steps.refl _) (argsL := [(.double (FP.ddiv (FP.i2d (sr &&& (2147483647 : Int32))) (4616189618054758400 : UInt64))), (.double (FP.i2d av)), (.double (FP.ddiv (FP.i2d ((tr &&& (2097151 : Int32)) + (1 : Int32))) (4620693217682128896 : UInt64)))]) (rest := []) (lenOf own_h16 rfl) rfl (by show 2 * 0 + _ ≤ _; exact Nat.le_of_eq rfl) (hb hby at_61) (fun _ _ => ⟨rfl, e3, (by decide : 0 + 0 ≤ _), (by decide : 0 + 0 ≤ _)⟩)
    dsimp only [Pt.U, Pt.locs, Pt.cells, Pt.slots] at X9 l_12 y_13 z_14 st15 hQ11
    subst l_12 y_13 z_14
    obtain ⟨rfl, N21, e22⟩ := hQ11
    have N23 := Fr.app N0 N21
    have k5 : own_K p e below (T5.setTop (mkF m 64 #[.val (.int sr), .val (.int av), .val (.int tr), .val (.int kv), .val (.ref aC), .val (.int (sr &&& (2147483647 : Int32))), .val (.int ((tr &&& (2097151 : Int32)) + (1 : Int32))), .val (.double (FP.ddiv (FP.i2d (sr &&& (2147483647 : Int32))) (4616189618054758400 : UInt64))), .second, .val (.double (FP.i2d av)), .second, .val (.double (FP.ddiv (FP.i2d ((tr &&& (2097151 : Int32)) + (1 : Int32))) (4620693217682128896 : UInt64))), .second, .unset, .unset, .unset, .unset, .unset, .unset] [(.double (own_es (FP.ddiv (FP.i2d (sr &&& (2147483647 : Int32))) (4616189618054758400 : UInt64)) (FP.i2d av) (FP.ddiv (FP.i2d ((tr &&& (2097151 : Int32)) + (1 : Int32))) (4620693217682128896 : UInt64))))])) (s₁.setTop (entryFrame m #[(.int sr), (.int av), (.int tr), (.int kv)] maxLocals)) := fun t hh => k4 t (st15.trans hh)
    have k6 : own_K p e below (T5.setTop (mkF m 86 #[.val (.int sr), .val (.int av), .val (.int tr), .val (.int kv), .val (.ref aC), .val (.int (sr &&& (2147483647 : Int32))), .val (.int ((tr &&& (2097151 : Int32)) + (1 : Int32))), .val (.double (FP.ddiv (FP.i2d (sr &&& (2147483647 : Int32))) (4616189618054758400 : UInt64))), .second, .val (.double (FP.i2d av)), .second, .val (.double (FP.ddiv (FP.i2d ((tr &&& (2097151 : Int32)) + (1 : Int32))) (4620693217682128896 : UInt64))), .second, .val (.double (own_es (FP.ddiv (FP.i2d (sr &&& (2147483647 : Int32))) (4616189618054758400 : UInt64)) (FP.i2d av) (FP.ddiv (FP.i2d ((tr &&& (2097151 : Int32)) + (1 : Int32))) (4620693217682128896 : UInt64)))), .second, .val (.long (((2 : Int64) * ((sr &&& (2147483647 : Int32)).toInt64)) + ((av.toInt64) * (((tr &&& (2097151 : Int32)) + (1 : Int32)).toInt64)))), .second, .unset, .unset] [(.int (lcmpW (((2 : Int64) * ((sr &&& (2147483647 : Int32)).toInt64)) + ((av.toInt64) * (((tr &&& (2097151 : Int32)) + (1 : Int32)).toInt64))) (0 : Int64)))])) (s₁.setTop (entryFrame m #[(.int sr), (.int av), (.int tr), (.int kv)] maxLocals)) := fun t hh => k5 t (by
      refine XS.dstore X9.here hx rfl (hb hby at_64) rfl (l' := #[.val (.int sr), .val (.int av), .val (.int tr), .val (.int kv), .val (.ref aC), .val (.int (sr &&& (2147483647 : Int32))), .val (.int ((tr &&& (2097151 : Int32)) + (1 : Int32))), .val (.double (FP.ddiv (FP.i2d (sr &&& (2147483647 : Int32))) (4616189618054758400 : UInt64))), .second, .val (.double (FP.i2d av)), .second, .val (.double (FP.ddiv (FP.i2d ((tr &&& (2097151 : Int32)) + (1 : Int32))) (4620693217682128896 : UInt64))), .second, .val (.double (own_es (FP.ddiv (FP.i2d (sr &&& (2147483647 : Int32))) (4616189618054758400 : UInt64)) (FP.i2d av) (FP.ddiv (FP.i2d ((tr &&& (2097151 : Int32)) + (1 : Int32))) (4620693217682128896 : UInt64)))), .second, .unset, .unset, .unset, .unset]) rfl ?_
      show Steps p.tables e below (T5.setTop (mkF m 66 #[.val (.int sr), .val (.int av), .val (.int tr), .val (.int kv), .val (.ref aC), .val (.int (sr &&& (2147483647 : Int32))), .val (.int ((tr &&& (2097151 : Int32)) + (1 : Int32))), .val (.double (FP.ddiv (FP.i2d (sr &&& (2147483647 : Int32))) (4616189618054758400 : UInt64))), .second, .val (.double (FP.i2d av)), .second, .val (.double (FP.ddiv (FP.i2d ((tr &&& (2097151 : Int32)) + (1 : Int32))) (4620693217682128896 : UInt64))), .second, .val (.double (own_es (FP.ddiv (FP.i2d (sr &&& (2147483647 : Int32))) (4616189618054758400 : UInt64)) (FP.i2d av) (FP.ddiv (FP.i2d ((tr &&& (2097151 : Int32)) + (1 : Int32))) (4620693217682128896 : UInt64)))), .second, .unset, .unset, .unset, .unset] [])) _
      refine X9.ldc2Long hx hown (mvT hZ (wT hw 12 rfl)) (g := (mkF m 66 #[.val (.int sr), .val (.int av), .val (.int tr), .val (.int kv), .val (.ref aC), .val (.int (sr &&& (2147483647 : Int32))), .val (.int ((tr &&& (2097151 : Int32)) + (1 : Int32))), .val (.double (FP.ddiv (FP.i2d (sr &&& (2147483647 : Int32))) (4616189618054758400 : UInt64))), .second, .val (.double (FP.i2d av)), .second, .val (.double (FP.ddiv (FP.i2d ((tr &&& (2097151 : Int32)) + (1 : Int32))) (4620693217682128896 : UInt64))), .second, .val (.double (own_es (FP.ddiv (FP.i2d (sr &&& (2147483647 : Int32))) (4616189618054758400 : UInt64)) (FP.i2d av) (FP.ddiv (FP.i2d ((tr &&& (2097151 : Int32)) + (1 : Int32))) (4620693217682128896 : UInt64)))), .second, .unset, .unset, .unset, .unset] [])) rfl (hb hby at_66) _ ?_
      show Steps p.tables e below (T5.setTop (mkF m 69 #[.val (.int sr), .val (.int av), .val (.int tr), .val (.int kv), .val (.ref aC), .val (.int (sr &&& (2147483647 : Int32))), .val (.int ((tr &&& (2097151 : Int32)) + (1 : Int32))), .val (.double (FP.ddiv (FP.i2d (sr &&& (2147483647 : Int32))) (4616189618054758400 : UInt64))), .second, .val (.double (FP.i2d av)), .second, .val (.double (FP.ddiv (FP.i2d ((tr &&& (2097151 : Int32)) + (1 : Int32))) (4620693217682128896 : UInt64))), .second, .val (.double (own_es (FP.ddiv (FP.i2d (sr &&& (2147483647 : Int32))) (4616189618054758400 : UInt64)) (FP.i2d av) (FP.ddiv (FP.i2d ((tr &&& (2097151 : Int32)) + (1 : Int32))) (4620693217682128896 : UInt64)))), .second, .unset, .unset, .unset, .unset] [(.long (2 : Int64))])) _
      refine XS.iload X9.here hx rfl (hb hby at_69) rfl ?_
      show Steps p.tables e below (T5.setTop (mkF m 71 #[.val (.int sr), .val (.int av), .val (.int tr), .val (.int kv), .val (.ref aC), .val (.int (sr &&& (2147483647 : Int32))), .val (.int ((tr &&& (2097151 : Int32)) + (1 : Int32))), .val (.double (FP.ddiv (FP.i2d (sr &&& (2147483647 : Int32))) (4616189618054758400 : UInt64))), .second, .val (.double (FP.i2d av)), .second, .val (.double (FP.ddiv (FP.i2d ((tr &&& (2097151 : Int32)) + (1 : Int32))) (4620693217682128896 : UInt64))), .second, .val (.double (own_es (FP.ddiv (FP.i2d (sr &&& (2147483647 : Int32))) (4616189618054758400 : UInt64)) (FP.i2d av) (FP.ddiv (FP.i2d ((tr &&& (2097151 : Int32)) + (1 : Int32))) (4620693217682128896 : UInt64)))), .second, .unset, .unset, .unset, .unset] [(.int (sr &&& (2147483647 : Int32))), (.long (2 : Int64))])) _
      refine XS.i2l X9.here hx rfl (hb hby at_71) rfl ?_
      show Steps p.tables e below (T5.setTop (mkF m 72 #[.val (.int sr), .val (.int av), .val (.int tr), .val (.int kv), .val (.ref aC), .val (.int (sr &&& (2147483647 : Int32))), .val (.int ((tr &&& (2097151 : Int32)) + (1 : Int32))), .val (.double (FP.ddiv (FP.i2d (sr &&& (2147483647 : Int32))) (4616189618054758400 : UInt64))), .second, .val (.double (FP.i2d av)), .second, .val (.double (FP.ddiv (FP.i2d ((tr &&& (2097151 : Int32)) + (1 : Int32))) (4620693217682128896 : UInt64))), .second, .val (.double (own_es (FP.ddiv (FP.i2d (sr &&& (2147483647 : Int32))) (4616189618054758400 : UInt64)) (FP.i2d av) (FP.ddiv (FP.i2d ((tr &&& (2097151 : Int32)) + (1 : Int32))) (4620693217682128896 : UInt64)))), .second, .unset, .unset, .unset, .unset] [(.long ((sr &&& (2147483647 : Int32)).toInt64)), (.long (2 : Int64))])) _
      refine XS.lmul X9.here hx rfl (hb hby at_72) rfl ?_
      show Steps p.tables e below (T5.setTop (mkF m 73 #[.val (.int sr), .val (.int av), .val (.int tr), .val (.int kv), .val (.ref aC), .val (.int (sr &&& (2147483647 : Int32))), .val (.int ((tr &&& (2097151 : Int32)) + (1 : Int32))), .val (.double (FP.ddiv (FP.i2d (sr &&& (2147483647 : Int32))) (4616189618054758400 : UInt64))), .second, .val (.double (FP.i2d av)), .second, .val (.double (FP.ddiv (FP.i2d ((tr &&& (2097151 : Int32)) + (1 : Int32))) (4620693217682128896 : UInt64))), .second, .val (.double (own_es (FP.ddiv (FP.i2d (sr &&& (2147483647 : Int32))) (4616189618054758400 : UInt64)) (FP.i2d av) (FP.ddiv (FP.i2d ((tr &&& (2097151 : Int32)) + (1 : Int32))) (4620693217682128896 : UInt64)))), .second, .unset, .unset, .unset, .unset] [(.long ((2 : Int64) * ((sr &&& (2147483647 : Int32)).toInt64)))])) _
      refine XS.iloadN X9.here hx rfl (hb hby at_73) rfl ?_
      show Steps p.tables e below (T5.setTop (mkF m 74 #[.val (.int sr), .val (.int av), .val (.int tr), .val (.int kv), .val (.ref aC), .val (.int (sr &&& (2147483647 : Int32))), .val (.int ((tr &&& (2097151 : Int32)) + (1 : Int32))), .val (.double (FP.ddiv (FP.i2d (sr &&& (2147483647 : Int32))) (4616189618054758400 : UInt64))), .second, .val (.double (FP.i2d av)), .second, .val (.double (FP.ddiv (FP.i2d ((tr &&& (2097151 : Int32)) + (1 : Int32))) (4620693217682128896 : UInt64))), .second, .val (.double (own_es (FP.ddiv (FP.i2d (sr &&& (2147483647 : Int32))) (4616189618054758400 : UInt64)) (FP.i2d av) (FP.ddiv (FP.i2d ((tr &&& (2097151 : Int32)) + (1 : Int32))) (4620693217682128896 : UInt64)))), .second, .unset, .unset, .unset, .unset] [(.int av), (.long ((2 : Int64) * ((sr &&& (2147483647 : Int32)).toInt64)))])) _
      refine XS.i2l X9.here hx rfl (hb hby at_74) rfl ?_
      show Steps p.tables e below (T5.setTop (mkF m 75 #[.val (.int sr), .val (.int av), .val (.int tr), .val (.int kv), .val (.ref aC), .val (.int (sr &&& (2147483647 : Int32))), .val (.int ((tr &&& (2097151 : Int32)) + (1 : Int32))), .val (.double (FP.ddiv (FP.i2d (sr &&& (2147483647 : Int32))) (4616189618054758400 : UInt64))), .second, .val (.double (FP.i2d av)), .second, .val (.double (FP.ddiv (FP.i2d ((tr &&& (2097151 : Int32)) + (1 : Int32))) (4620693217682128896 : UInt64))), .second, .val (.double (own_es (FP.ddiv (FP.i2d (sr &&& (2147483647 : Int32))) (4616189618054758400 : UInt64)) (FP.i2d av) (FP.ddiv (FP.i2d ((tr &&& (2097151 : Int32)) + (1 : Int32))) (4620693217682128896 : UInt64)))), .second, .unset, .unset, .unset, .unset] [(.long (av.toInt64)), (.long ((2 : Int64) * ((sr &&& (2147483647 : Int32)).toInt64)))])) _
      refine XS.iload X9.here hx rfl (hb hby at_75) rfl ?_
      show Steps p.tables e below (T5.setTop (mkF m 77 #[.val (.int sr), .val (.int av), .val (.int tr), .val (.int kv), .val (.ref aC), .val (.int (sr &&& (2147483647 : Int32))), .val (.int ((tr &&& (2097151 : Int32)) + (1 : Int32))), .val (.double (FP.ddiv (FP.i2d (sr &&& (2147483647 : Int32))) (4616189618054758400 : UInt64))), .second, .val (.double (FP.i2d av)), .second, .val (.double (FP.ddiv (FP.i2d ((tr &&& (2097151 : Int32)) + (1 : Int32))) (4620693217682128896 : UInt64))), .second, .val (.double (own_es (FP.ddiv (FP.i2d (sr &&& (2147483647 : Int32))) (4616189618054758400 : UInt64)) (FP.i2d av) (FP.ddiv (FP.i2d ((tr &&& (2097151 : Int32)) + (1 : Int32))) (4620693217682128896 : UInt64)))), .second, .unset, .unset, .unset, .unset] [(.int ((tr &&& (2097151 : Int32)) + (1 : Int32))), (.long (av.toInt64)), (.long ((2 : Int64) * ((sr &&& (2147483647 : Int32)).toInt64)))])) _
      refine XS.i2l X9.here hx rfl (hb hby at_77) rfl ?_
      show Steps p.tables e below (T5.setTop (mkF m 78 #[.val (.int sr), .val (.int av), .val (.int tr), .val (.int kv), .val (.ref aC), .val (.int (sr &&& (2147483647 : Int32))), .val (.int ((tr &&& (2097151 : Int32)) + (1 : Int32))), .val (.double (FP.ddiv (FP.i2d (sr &&& (2147483647 : Int32))) (4616189618054758400 : UInt64))), .second, .val (.double (FP.i2d av)), .second, .val (.double (FP.ddiv (FP.i2d ((tr &&& (2097151 : Int32)) + (1 : Int32))) (4620693217682128896 : UInt64))), .second, .val (.double (own_es (FP.ddiv (FP.i2d (sr &&& (2147483647 : Int32))) (4616189618054758400 : UInt64)) (FP.i2d av) (FP.ddiv (FP.i2d ((tr &&& (2097151 : Int32)) + (1 : Int32))) (4620693217682128896 : UInt64)))), .second, .unset, .unset, .unset, .unset] [(.long (((tr &&& (2097151 : Int32)) + (1 : Int32)).toInt64)), (.long (av.toInt64)), (.long ((2 : Int64) * ((sr &&& (2147483647 : Int32)).toInt64)))])) _
      refine XS.lmul X9.here hx rfl (hb hby at_78) rfl ?_
      show Steps p.tables e below (T5.setTop (mkF m 79 #[.val (.int sr), .val (.int av), .val (.int tr), .val (.int kv), .val (.ref aC), .val (.int (sr &&& (2147483647 : Int32))), .val (.int ((tr &&& (2097151 : Int32)) + (1 : Int32))), .val (.double (FP.ddiv (FP.i2d (sr &&& (2147483647 : Int32))) (4616189618054758400 : UInt64))), .second, .val (.double (FP.i2d av)), .second, .val (.double (FP.ddiv (FP.i2d ((tr &&& (2097151 : Int32)) + (1 : Int32))) (4620693217682128896 : UInt64))), .second, .val (.double (own_es (FP.ddiv (FP.i2d (sr &&& (2147483647 : Int32))) (4616189618054758400 : UInt64)) (FP.i2d av) (FP.ddiv (FP.i2d ((tr &&& (2097151 : Int32)) + (1 : Int32))) (4620693217682128896 : UInt64)))), .second, .unset, .unset, .unset, .unset] [(.long ((av.toInt64) * (((tr &&& (2097151 : Int32)) + (1 : Int32)).toInt64))), (.long ((2 : Int64) * ((sr &&& (2147483647 : Int32)).toInt64)))])) _
      refine XS.ladd X9.here hx rfl (hb hby at_79) rfl ?_
      show Steps p.tables e below (T5.setTop (mkF m 80 #[.val (.int sr), .val (.int av), .val (.int tr), .val (.int kv), .val (.ref aC), .val (.int (sr &&& (2147483647 : Int32))), .val (.int ((tr &&& (2097151 : Int32)) + (1 : Int32))), .val (.double (FP.ddiv (FP.i2d (sr &&& (2147483647 : Int32))) (4616189618054758400 : UInt64))), .second, .val (.double (FP.i2d av)), .second, .val (.double (FP.ddiv (FP.i2d ((tr &&& (2097151 : Int32)) + (1 : Int32))) (4620693217682128896 : UInt64))), .second, .val (.double (own_es (FP.ddiv (FP.i2d (sr &&& (2147483647 : Int32))) (4616189618054758400 : UInt64)) (FP.i2d av) (FP.ddiv (FP.i2d ((tr &&& (2097151 : Int32)) + (1 : Int32))) (4620693217682128896 : UInt64)))), .second, .unset, .unset, .unset, .unset] [(.long (((2 : Int64) * ((sr &&& (2147483647 : Int32)).toInt64)) + ((av.toInt64) * (((tr &&& (2097151 : Int32)) + (1 : Int32)).toInt64))))])) _
      refine XS.lstore X9.here hx rfl (hb hby at_80) rfl (l' := #[.val (.int sr), .val (.int av), .val (.int tr), .val (.int kv), .val (.ref aC), .val (.int (sr &&& (2147483647 : Int32))), .val (.int ((tr &&& (2097151 : Int32)) + (1 : Int32))), .val (.double (FP.ddiv (FP.i2d (sr &&& (2147483647 : Int32))) (4616189618054758400 : UInt64))), .second, .val (.double (FP.i2d av)), .second, .val (.double (FP.ddiv (FP.i2d ((tr &&& (2097151 : Int32)) + (1 : Int32))) (4620693217682128896 : UInt64))), .second, .val (.double (own_es (FP.ddiv (FP.i2d (sr &&& (2147483647 : Int32))) (4616189618054758400 : UInt64)) (FP.i2d av) (FP.ddiv (FP.i2d ((tr &&& (2097151 : Int32)) + (1 : Int32))) (4620693217682128896 : UInt64)))), .second, .val (.long (((2 : Int64) * ((sr &&& (2147483647 : Int32)).toInt64)) + ((av.toInt64) * (((tr &&& (2097151 : Int32)) + (1 : Int32)).toInt64)))), .second, .unset, .unset]) rfl ?_
      show Steps p.tables e below (T5.setTop (mkF m 82 #[.val (.int sr), .val (.int av), .val (.int tr), .val (.int kv), .val (.ref aC), .val (.int (sr &&& (2147483647 : Int32))), .val (.int ((tr &&& (2097151 : Int32)) + (1 : Int32))), .val (.double (FP.ddiv (FP.i2d (sr &&& (2147483647 : Int32))) (4616189618054758400 : UInt64))), .second, .val (.double (FP.i2d av)), .second, .val (.double (FP.ddiv (FP.i2d ((tr &&& (2097151 : Int32)) + (1 : Int32))) (4620693217682128896 : UInt64))), .second, .val (.double (own_es (FP.ddiv (FP.i2d (sr &&& (2147483647 : Int32))) (4616189618054758400 : UInt64)) (FP.i2d av) (FP.ddiv (FP.i2d ((tr &&& (2097151 : Int32)) + (1 : Int32))) (4620693217682128896 : UInt64)))), .second, .val (.long (((2 : Int64) * ((sr &&& (2147483647 : Int32)).toInt64)) + ((av.toInt64) * (((tr &&& (2097151 : Int32)) + (1 : Int32)).toInt64)))), .second, .unset, .unset] [])) _
      refine XS.lload X9.here hx rfl (hb hby at_82) rfl ?_
      show Steps p.tables e below (T5.setTop (mkF m 84 #[.val (.int sr), .val (.int av), .val (.int tr), .val (.int kv), .val (.ref aC), .val (.int (sr &&& (2147483647 : Int32))), .val (.int ((tr &&& (2097151 : Int32)) + (1 : Int32))), .val (.double (FP.ddiv (FP.i2d (sr &&& (2147483647 : Int32))) (4616189618054758400 : UInt64))), .second, .val (.double (FP.i2d av)), .second, .val (.double (FP.ddiv (FP.i2d ((tr &&& (2097151 : Int32)) + (1 : Int32))) (4620693217682128896 : UInt64))), .second, .val (.double (own_es (FP.ddiv (FP.i2d (sr &&& (2147483647 : Int32))) (4616189618054758400 : UInt64)) (FP.i2d av) (FP.ddiv (FP.i2d ((tr &&& (2097151 : Int32)) + (1 : Int32))) (4620693217682128896 : UInt64)))), .second, .val (.long (((2 : Int64) * ((sr &&& (2147483647 : Int32)).toInt64)) + ((av.toInt64) * (((tr &&& (2097151 : Int32)) + (1 : Int32)).toInt64)))), .second, .unset, .unset] [(.long (((2 : Int64) * ((sr &&& (2147483647 : Int32)).toInt64)) + ((av.toInt64) * (((tr &&& (2097151 : Int32)) + (1 : Int32)).toInt64))))])) _
      refine XS.lconst X9.here hx rfl (hb hby at_84) ?_
      show Steps p.tables e below (T5.setTop (mkF m 85 #[.val (.int sr), .val (.int av), .val (.int tr), .val (.int kv), .val (.ref aC), .val (.int (sr &&& (2147483647 : Int32))), .val (.int ((tr &&& (2097151 : Int32)) + (1 : Int32))), .val (.double (FP.ddiv (FP.i2d (sr &&& (2147483647 : Int32))) (4616189618054758400 : UInt64))), .second, .val (.double (FP.i2d av)), .second, .val (.double (FP.ddiv (FP.i2d ((tr &&& (2097151 : Int32)) + (1 : Int32))) (4620693217682128896 : UInt64))), .second, .val (.double (own_es (FP.ddiv (FP.i2d (sr &&& (2147483647 : Int32))) (4616189618054758400 : UInt64)) (FP.i2d av) (FP.ddiv (FP.i2d ((tr &&& (2097151 : Int32)) + (1 : Int32))) (4620693217682128896 : UInt64)))), .second, .val (.long (((2 : Int64) * ((sr &&& (2147483647 : Int32)).toInt64)) + ((av.toInt64) * (((tr &&& (2097151 : Int32)) + (1 : Int32)).toInt64)))), .second, .unset, .unset] [(.long (0 : Int64)), (.long (((2 : Int64) * ((sr &&& (2147483647 : Int32)).toInt64)) + ((av.toInt64) * (((tr &&& (2097151 : Int32)) + (1 : Int32)).toInt64))))])) _
      refine XS.lcmp X9.here hx rfl (hb hby at_85) rfl ?_
      show Steps p.tables e below (T5.setTop (mkF m 86 #[.val (.int sr), .val (.int av), .val (.int tr), .val (.int kv), .val (.ref aC), .val (.int (sr &&& (2147483647 : Int32))), .val (.int ((tr &&& (2097151 : Int32)) + (1 : Int32))), .val (.double (FP.ddiv (FP.i2d (sr &&& (2147483647 : Int32))) (4616189618054758400 : UInt64))), .second, .val (.double (FP.i2d av)), .second, .val (.double (FP.ddiv (FP.i2d ((tr &&& (2097151 : Int32)) + (1 : Int32))) (4620693217682128896 : UInt64))), .second, .val (.double (own_es (FP.ddiv (FP.i2d (sr &&& (2147483647 : Int32))) (4616189618054758400 : UInt64)) (FP.i2d av) (FP.ddiv (FP.i2d ((tr &&& (2097151 : Int32)) + (1 : Int32))) (4620693217682128896 : UInt64)))), .second, .val (.long (((2 : Int64) * ((sr &&& (2147483647 : Int32)).toInt64)) + ((av.toInt64) * (((tr &&& (2097151 : Int32)) + (1 : Int32)).toInt64)))), .second, .unset, .unset] [(.int (lcmpW (((2 : Int64) * ((sr &&& (2147483647 : Int32)).toInt64)) + ((av.toInt64) * (((tr &&& (2097151 : Int32)) + (1 : Int32)).toInt64))) (0 : Int64)))])) _
      exact hh)
    by_cases c86 : (lcmpW (((2 : Int64) * ((sr &&& (2147483647 : Int32)).toInt64)) + ((av.toInt64) * (((tr &&& (2097151 : Int32)) + (1 : Int32)).toInt64))) (0 : Int64)) < 0
    ·
      have k7 : own_K p e below (T5.setTop (mkF m 115 #[.val (.int sr), .val (.int av), .val (.int tr), .val (.int kv), .val (.ref aC), .val (.int (sr &&& (2147483647 : Int32))), .val (.int ((tr &&& (2097151 : Int32)) + (1 : Int32))), .val (.double (FP.ddiv (FP.i2d (sr &&& (2147483647 : Int32))) (4616189618054758400 : UInt64))), .second, .val (.double (FP.i2d av)), .second, .val (.double (FP.ddiv (FP.i2d ((tr &&& (2097151 : Int32)) + (1 : Int32))) (4620693217682128896 : UInt64))), .second, .val (.double (own_es (FP.ddiv (FP.i2d (sr &&& (2147483647 : Int32))) (4616189618054758400 : UInt64)) (FP.i2d av) (FP.ddiv (FP.i2d ((tr &&& (2097151 : Int32)) + (1 : Int32))) (4620693217682128896 : UInt64)))), .second, .val (.long (((2 : Int64) * ((sr &&& (2147483647 : Int32)).toInt64)) + ((av.toInt64) * (((tr &&& (2097151 : Int32)) + (1 : Int32)).toInt64)))), .second, .val (.double FP.dconst0), .second] [(.int (1 : Int32))])) (s₁.setTop (entryFrame m #[(.int sr), (.int av), (.int tr), (.int kv)] maxLocals)) := fun t hh => k6 t (by
        refine XS.ifNo X9.here hx rfl (hb hby at_86) rfl (own_ifF_ge c86) ?_
        show Steps p.tables e below (T5.setTop (mkF m 89 #[.val (.int sr), .val (.int av), .val (.int tr), .val (.int kv), .val (.ref aC), .val (.int (sr &&& (2147483647 : Int32))), .val (.int ((tr &&& (2097151 : Int32)) + (1 : Int32))), .val (.double (FP.ddiv (FP.i2d (sr &&& (2147483647 : Int32))) (4616189618054758400 : UInt64))), .second, .val (.double (FP.i2d av)), .second, .val (.double (FP.ddiv (FP.i2d ((tr &&& (2097151 : Int32)) + (1 : Int32))) (4620693217682128896 : UInt64))), .second, .val (.double (own_es (FP.ddiv (FP.i2d (sr &&& (2147483647 : Int32))) (4616189618054758400 : UInt64)) (FP.i2d av) (FP.ddiv (FP.i2d ((tr &&& (2097151 : Int32)) + (1 : Int32))) (4620693217682128896 : UInt64)))), .second, .val (.long (((2 : Int64) * ((sr &&& (2147483647 : Int32)).toInt64)) + ((av.toInt64) * (((tr &&& (2097151 : Int32)) + (1 : Int32)).toInt64)))), .second, .unset, .unset] [])) _
        refine XS.dconst0 X9.here hx rfl (hb hby at_89) rfl ?_
        show Steps p.tables e below (T5.setTop (mkF m 90 #[.val (.int sr), .val (.int av), .val (.int tr), .val (.int kv), .val (.ref aC), .val (.int (sr &&& (2147483647 : Int32))), .val (.int ((tr &&& (2097151 : Int32)) + (1 : Int32))), .val (.double (FP.ddiv (FP.i2d (sr &&& (2147483647 : Int32))) (4616189618054758400 : UInt64))), .second, .val (.double (FP.i2d av)), .second, .val (.double (FP.ddiv (FP.i2d ((tr &&& (2097151 : Int32)) + (1 : Int32))) (4620693217682128896 : UInt64))), .second, .val (.double (own_es (FP.ddiv (FP.i2d (sr &&& (2147483647 : Int32))) (4616189618054758400 : UInt64)) (FP.i2d av) (FP.ddiv (FP.i2d ((tr &&& (2097151 : Int32)) + (1 : Int32))) (4620693217682128896 : UInt64)))), .second, .val (.long (((2 : Int64) * ((sr &&& (2147483647 : Int32)).toInt64)) + ((av.toInt64) * (((tr &&& (2097151 : Int32)) + (1 : Int32)).toInt64)))), .second, .unset, .unset] [(.double FP.dconst0)])) _
        refine XS.goto X9.here hx rfl (pc0 := 90) (pc' := 100) rfl (hb hby at_90) (by decide) (by decide) ?_
        show Steps p.tables e below (T5.setTop (mkF m 100 #[.val (.int sr), .val (.int av), .val (.int tr), .val (.int kv), .val (.ref aC), .val (.int (sr &&& (2147483647 : Int32))), .val (.int ((tr &&& (2097151 : Int32)) + (1 : Int32))), .val (.double (FP.ddiv (FP.i2d (sr &&& (2147483647 : Int32))) (4616189618054758400 : UInt64))), .second, .val (.double (FP.i2d av)), .second, .val (.double (FP.ddiv (FP.i2d ((tr &&& (2097151 : Int32)) + (1 : Int32))) (4620693217682128896 : UInt64))), .second, .val (.double (own_es (FP.ddiv (FP.i2d (sr &&& (2147483647 : Int32))) (4616189618054758400 : UInt64)) (FP.i2d av) (FP.ddiv (FP.i2d ((tr &&& (2097151 : Int32)) + (1 : Int32))) (4620693217682128896 : UInt64)))), .second, .val (.long (((2 : Int64) * ((sr &&& (2147483647 : Int32)).toInt64)) + ((av.toInt64) * (((tr &&& (2097151 : Int32)) + (1 : Int32)).toInt64)))), .second, .unset, .unset] [(.double FP.dconst0)])) _
        refine XS.dstore X9.here hx rfl (hb hby at_100) rfl (l' := #[.val (.int sr), .val (.int av), .val (.int tr), .val (.int kv), .val (.ref aC), .val (.int (sr &&& (2147483647 : Int32))), .val (.int ((tr &&& (2097151 : Int32)) + (1 : Int32))), .val (.double (FP.ddiv (FP.i2d (sr &&& (2147483647 : Int32))) (4616189618054758400 : UInt64))), .second, .val (.double (FP.i2d av)), .second, .val (.double (FP.ddiv (FP.i2d ((tr &&& (2097151 : Int32)) + (1 : Int32))) (4620693217682128896 : UInt64))), .second, .val (.double (own_es (FP.ddiv (FP.i2d (sr &&& (2147483647 : Int32))) (4616189618054758400 : UInt64)) (FP.i2d av) (FP.ddiv (FP.i2d ((tr &&& (2097151 : Int32)) + (1 : Int32))) (4620693217682128896 : UInt64)))), .second, .val (.long (((2 : Int64) * ((sr &&& (2147483647 : Int32)).toInt64)) + ((av.toInt64) * (((tr &&& (2097151 : Int32)) + (1 : Int32)).toInt64)))), .second, .val (.double FP.dconst0), .second]) rfl ?_
        show Steps p.tables e below (T5.setTop (mkF m 102 #[.val (.int sr), .val (.int av), .val (.int tr), .val (.int kv), .val (.ref aC), .val (.int (sr &&& (2147483647 : Int32))), .val (.int ((tr &&& (2097151 : Int32)) + (1 : Int32))), .val (.double (FP.ddiv (FP.i2d (sr &&& (2147483647 : Int32))) (4616189618054758400 : UInt64))), .second, .val (.double (FP.i2d av)), .second, .val (.double (FP.ddiv (FP.i2d ((tr &&& (2097151 : Int32)) + (1 : Int32))) (4620693217682128896 : UInt64))), .second, .val (.double (own_es (FP.ddiv (FP.i2d (sr &&& (2147483647 : Int32))) (4616189618054758400 : UInt64)) (FP.i2d av) (FP.ddiv (FP.i2d ((tr &&& (2097151 : Int32)) + (1 : Int32))) (4620693217682128896 : UInt64)))), .second, .val (.long (((2 : Int64) * ((sr &&& (2147483647 : Int32)).toInt64)) + ((av.toInt64) * (((tr &&& (2097151 : Int32)) + (1 : Int32)).toInt64)))), .second, .val (.double FP.dconst0), .second] [])) _
        refine XS.dload X9.here hx rfl (hb hby at_102) rfl ?_
        show Steps p.tables e below (T5.setTop (mkF m 104 #[.val (.int sr), .val (.int av), .val (.int tr), .val (.int kv), .val (.ref aC), .val (.int (sr &&& (2147483647 : Int32))), .val (.int ((tr &&& (2097151 : Int32)) + (1 : Int32))), .val (.double (FP.ddiv (FP.i2d (sr &&& (2147483647 : Int32))) (4616189618054758400 : UInt64))), .second, .val (.double (FP.i2d av)), .second, .val (.double (FP.ddiv (FP.i2d ((tr &&& (2097151 : Int32)) + (1 : Int32))) (4620693217682128896 : UInt64))), .second, .val (.double (own_es (FP.ddiv (FP.i2d (sr &&& (2147483647 : Int32))) (4616189618054758400 : UInt64)) (FP.i2d av) (FP.ddiv (FP.i2d ((tr &&& (2097151 : Int32)) + (1 : Int32))) (4620693217682128896 : UInt64)))), .second, .val (.long (((2 : Int64) * ((sr &&& (2147483647 : Int32)).toInt64)) + ((av.toInt64) * (((tr &&& (2097151 : Int32)) + (1 : Int32)).toInt64)))), .second, .val (.double FP.dconst0), .second] [(.double (own_es (FP.ddiv (FP.i2d (sr &&& (2147483647 : Int32))) (4616189618054758400 : UInt64)) (FP.i2d av) (FP.ddiv (FP.i2d ((tr &&& (2097151 : Int32)) + (1 : Int32))) (4620693217682128896 : UInt64))))])) _
        refine XS.dload X9.here hx rfl (hb hby at_104) rfl ?_
        show Steps p.tables e below (T5.setTop (mkF m 106 #[.val (.int sr), .val (.int av), .val (.int tr), .val (.int kv), .val (.ref aC), .val (.int (sr &&& (2147483647 : Int32))), .val (.int ((tr &&& (2097151 : Int32)) + (1 : Int32))), .val (.double (FP.ddiv (FP.i2d (sr &&& (2147483647 : Int32))) (4616189618054758400 : UInt64))), .second, .val (.double (FP.i2d av)), .second, .val (.double (FP.ddiv (FP.i2d ((tr &&& (2097151 : Int32)) + (1 : Int32))) (4620693217682128896 : UInt64))), .second, .val (.double (own_es (FP.ddiv (FP.i2d (sr &&& (2147483647 : Int32))) (4616189618054758400 : UInt64)) (FP.i2d av) (FP.ddiv (FP.i2d ((tr &&& (2097151 : Int32)) + (1 : Int32))) (4620693217682128896 : UInt64)))), .second, .val (.long (((2 : Int64) * ((sr &&& (2147483647 : Int32)).toInt64)) + ((av.toInt64) * (((tr &&& (2097151 : Int32)) + (1 : Int32)).toInt64)))), .second, .val (.double FP.dconst0), .second] [(.double FP.dconst0), (.double (own_es (FP.ddiv (FP.i2d (sr &&& (2147483647 : Int32))) (4616189618054758400 : UInt64)) (FP.i2d av) (FP.ddiv (FP.i2d ((tr &&& (2097151 : Int32)) + (1 : Int32))) (4620693217682128896 : UInt64))))])) _
        refine XS.dcmpS X9.here hx rfl (hb hby at_106) rfl (own_fin1 sr av tr c86) ?_
        show Steps p.tables e below (T5.setTop (mkF m 107 #[.val (.int sr), .val (.int av), .val (.int tr), .val (.int kv), .val (.ref aC), .val (.int (sr &&& (2147483647 : Int32))), .val (.int ((tr &&& (2097151 : Int32)) + (1 : Int32))), .val (.double (FP.ddiv (FP.i2d (sr &&& (2147483647 : Int32))) (4616189618054758400 : UInt64))), .second, .val (.double (FP.i2d av)), .second, .val (.double (FP.ddiv (FP.i2d ((tr &&& (2097151 : Int32)) + (1 : Int32))) (4620693217682128896 : UInt64))), .second, .val (.double (own_es (FP.ddiv (FP.i2d (sr &&& (2147483647 : Int32))) (4616189618054758400 : UInt64)) (FP.i2d av) (FP.ddiv (FP.i2d ((tr &&& (2097151 : Int32)) + (1 : Int32))) (4620693217682128896 : UInt64)))), .second, .val (.long (((2 : Int64) * ((sr &&& (2147483647 : Int32)).toInt64)) + ((av.toInt64) * (((tr &&& (2097151 : Int32)) + (1 : Int32)).toInt64)))), .second, .val (.double FP.dconst0), .second] [(.int (0 : Int32))])) _
        refine XS.ifNo X9.here hx rfl (hb hby at_107) rfl (by decide) ?_
        show Steps p.tables e below (T5.setTop (mkF m 110 #[.val (.int sr), .val (.int av), .val (.int tr), .val (.int kv), .val (.ref aC), .val (.int (sr &&& (2147483647 : Int32))), .val (.int ((tr &&& (2097151 : Int32)) + (1 : Int32))), .val (.double (FP.ddiv (FP.i2d (sr &&& (2147483647 : Int32))) (4616189618054758400 : UInt64))), .second, .val (.double (FP.i2d av)), .second, .val (.double (FP.ddiv (FP.i2d ((tr &&& (2097151 : Int32)) + (1 : Int32))) (4620693217682128896 : UInt64))), .second, .val (.double (own_es (FP.ddiv (FP.i2d (sr &&& (2147483647 : Int32))) (4616189618054758400 : UInt64)) (FP.i2d av) (FP.ddiv (FP.i2d ((tr &&& (2097151 : Int32)) + (1 : Int32))) (4620693217682128896 : UInt64)))), .second, .val (.long (((2 : Int64) * ((sr &&& (2147483647 : Int32)).toInt64)) + ((av.toInt64) * (((tr &&& (2097151 : Int32)) + (1 : Int32)).toInt64)))), .second, .val (.double FP.dconst0), .second] [])) _
        refine XS.iconst X9.here hx rfl (hb hby at_110) ?_
        show Steps p.tables e below (T5.setTop (mkF m 111 #[.val (.int sr), .val (.int av), .val (.int tr), .val (.int kv), .val (.ref aC), .val (.int (sr &&& (2147483647 : Int32))), .val (.int ((tr &&& (2097151 : Int32)) + (1 : Int32))), .val (.double (FP.ddiv (FP.i2d (sr &&& (2147483647 : Int32))) (4616189618054758400 : UInt64))), .second, .val (.double (FP.i2d av)), .second, .val (.double (FP.ddiv (FP.i2d ((tr &&& (2097151 : Int32)) + (1 : Int32))) (4620693217682128896 : UInt64))), .second, .val (.double (own_es (FP.ddiv (FP.i2d (sr &&& (2147483647 : Int32))) (4616189618054758400 : UInt64)) (FP.i2d av) (FP.ddiv (FP.i2d ((tr &&& (2097151 : Int32)) + (1 : Int32))) (4620693217682128896 : UInt64)))), .second, .val (.long (((2 : Int64) * ((sr &&& (2147483647 : Int32)).toInt64)) + ((av.toInt64) * (((tr &&& (2097151 : Int32)) + (1 : Int32)).toInt64)))), .second, .val (.double FP.dconst0), .second] [(.int (1 : Int32))])) _
        refine XS.goto X9.here hx rfl (pc0 := 111) (pc' := 115) rfl (hb hby at_111) (by decide) (by decide) ?_
        show Steps p.tables e below (T5.setTop (mkF m 115 #[.val (.int sr), .val (.int av), .val (.int tr), .val (.int kv), .val (.ref aC), .val (.int (sr &&& (2147483647 : Int32))), .val (.int ((tr &&& (2097151 : Int32)) + (1 : Int32))), .val (.double (FP.ddiv (FP.i2d (sr &&& (2147483647 : Int32))) (4616189618054758400 : UInt64))), .second, .val (.double (FP.i2d av)), .second, .val (.double (FP.ddiv (FP.i2d ((tr &&& (2097151 : Int32)) + (1 : Int32))) (4620693217682128896 : UInt64))), .second, .val (.double (own_es (FP.ddiv (FP.i2d (sr &&& (2147483647 : Int32))) (4616189618054758400 : UInt64)) (FP.i2d av) (FP.ddiv (FP.i2d ((tr &&& (2097151 : Int32)) + (1 : Int32))) (4620693217682128896 : UInt64)))), .second, .val (.long (((2 : Int64) * ((sr &&& (2147483647 : Int32)).toInt64)) + ((av.toInt64) * (((tr &&& (2097151 : Int32)) + (1 : Int32)).toInt64)))), .second, .val (.double FP.dconst0), .second] [(.int (1 : Int32))])) _
        exact hh)
      obtain ⟨fs, hr, hrun, hended, hW, hsame⟩ := X9.leave (v := some (.int (1 : Int32))) (fun h => by rw [Bd.returns] at h; cases h)
      refine ⟨_, _, k7 _ (retN X9 hx (t := .boolean) Bd.returns (by simp) (hb hby at_115) hr), hrun, hended, _, _, rfl, ?_, ⟨_, rfl⟩, hW, hsame.mono (by decide) (by decide)⟩
      show QL h0 n0 _ T5.heap _
      rw [e22]
      exact ⟨rfl, N23⟩
    ·
      have k8 : own_K p e below (T5.setTop (mkF m 115 #[.val (.int sr), .val (.int av), .val (.int tr), .val (.int kv), .val (.ref aC), .val (.int (sr &&& (2147483647 : Int32))), .val (.int ((tr &&& (2097151 : Int32)) + (1 : Int32))), .val (.double (FP.ddiv (FP.i2d (sr &&& (2147483647 : Int32))) (4616189618054758400 : UInt64))), .second, .val (.double (FP.i2d av)), .second, .val (.double (FP.ddiv (FP.i2d ((tr &&& (2097151 : Int32)) + (1 : Int32))) (4620693217682128896 : UInt64))), .second, .val (.double (own_es (FP.ddiv (FP.i2d (sr &&& (2147483647 : Int32))) (4616189618054758400 : UInt64)) (FP.i2d av) (FP.ddiv (FP.i2d ((tr &&& (2097151 : Int32)) + (1 : Int32))) (4620693217682128896 : UInt64)))), .second, .val (.long (((2 : Int64) * ((sr &&& (2147483647 : Int32)).toInt64)) + ((av.toInt64) * (((tr &&& (2097151 : Int32)) + (1 : Int32)).toInt64)))), .second, .val (.double (FP.ddiv (FP.l2d (((2 : Int64) * ((sr &&& (2147483647 : Int32)).toInt64)) + ((av.toInt64) * (((tr &&& (2097151 : Int32)) + (1 : Int32)).toInt64)))) (4620693217682128896 : UInt64))), .second] [(.int (1 : Int32))])) (s₁.setTop (entryFrame m #[(.int sr), (.int av), (.int tr), (.int kv)] maxLocals)) := fun t hh => k6 t (by
        refine XS.ifYes X9.here hx rfl (pc0 := 86) (pc' := 93) rfl (hb hby at_86) rfl (own_ifT_ge c86) (by decide) (by decide) ?_
        show Steps p.tables e below (T5.setTop (mkF m 93 #[.val (.int sr), .val (.int av), .val (.int tr), .val (.int kv), .val (.ref aC), .val (.int (sr &&& (2147483647 : Int32))), .val (.int ((tr &&& (2097151 : Int32)) + (1 : Int32))), .val (.double (FP.ddiv (FP.i2d (sr &&& (2147483647 : Int32))) (4616189618054758400 : UInt64))), .second, .val (.double (FP.i2d av)), .second, .val (.double (FP.ddiv (FP.i2d ((tr &&& (2097151 : Int32)) + (1 : Int32))) (4620693217682128896 : UInt64))), .second, .val (.double (own_es (FP.ddiv (FP.i2d (sr &&& (2147483647 : Int32))) (4616189618054758400 : UInt64)) (FP.i2d av) (FP.ddiv (FP.i2d ((tr &&& (2097151 : Int32)) + (1 : Int32))) (4620693217682128896 : UInt64)))), .second, .val (.long (((2 : Int64) * ((sr &&& (2147483647 : Int32)).toInt64)) + ((av.toInt64) * (((tr &&& (2097151 : Int32)) + (1 : Int32)).toInt64)))), .second, .unset, .unset] [])) _
        refine XS.lload X9.here hx rfl (hb hby at_93) rfl ?_
        show Steps p.tables e below (T5.setTop (mkF m 95 #[.val (.int sr), .val (.int av), .val (.int tr), .val (.int kv), .val (.ref aC), .val (.int (sr &&& (2147483647 : Int32))), .val (.int ((tr &&& (2097151 : Int32)) + (1 : Int32))), .val (.double (FP.ddiv (FP.i2d (sr &&& (2147483647 : Int32))) (4616189618054758400 : UInt64))), .second, .val (.double (FP.i2d av)), .second, .val (.double (FP.ddiv (FP.i2d ((tr &&& (2097151 : Int32)) + (1 : Int32))) (4620693217682128896 : UInt64))), .second, .val (.double (own_es (FP.ddiv (FP.i2d (sr &&& (2147483647 : Int32))) (4616189618054758400 : UInt64)) (FP.i2d av) (FP.ddiv (FP.i2d ((tr &&& (2097151 : Int32)) + (1 : Int32))) (4620693217682128896 : UInt64)))), .second, .val (.long (((2 : Int64) * ((sr &&& (2147483647 : Int32)).toInt64)) + ((av.toInt64) * (((tr &&& (2097151 : Int32)) + (1 : Int32)).toInt64)))), .second, .unset, .unset] [(.long (((2 : Int64) * ((sr &&& (2147483647 : Int32)).toInt64)) + ((av.toInt64) * (((tr &&& (2097151 : Int32)) + (1 : Int32)).toInt64))))])) _
        refine XS.l2dS X9.here hx rfl (hb hby at_95) rfl rfl ?_
        show Steps p.tables e below (T5.setTop (mkF m 96 #[.val (.int sr), .val (.int av), .val (.int tr), .val (.int kv), .val (.ref aC), .val (.int (sr &&& (2147483647 : Int32))), .val (.int ((tr &&& (2097151 : Int32)) + (1 : Int32))), .val (.double (FP.ddiv (FP.i2d (sr &&& (2147483647 : Int32))) (4616189618054758400 : UInt64))), .second, .val (.double (FP.i2d av)), .second, .val (.double (FP.ddiv (FP.i2d ((tr &&& (2097151 : Int32)) + (1 : Int32))) (4620693217682128896 : UInt64))), .second, .val (.double (own_es (FP.ddiv (FP.i2d (sr &&& (2147483647 : Int32))) (4616189618054758400 : UInt64)) (FP.i2d av) (FP.ddiv (FP.i2d ((tr &&& (2097151 : Int32)) + (1 : Int32))) (4620693217682128896 : UInt64)))), .second, .val (.long (((2 : Int64) * ((sr &&& (2147483647 : Int32)).toInt64)) + ((av.toInt64) * (((tr &&& (2097151 : Int32)) + (1 : Int32)).toInt64)))), .second, .unset, .unset] [(.double (FP.l2d (((2 : Int64) * ((sr &&& (2147483647 : Int32)).toInt64)) + ((av.toInt64) * (((tr &&& (2097151 : Int32)) + (1 : Int32)).toInt64)))))])) _
        refine X9.ldc2DoubleC hx hown (mvT hZ (wT hw 6 rfl)) (g := (mkF m 96 #[.val (.int sr), .val (.int av), .val (.int tr), .val (.int kv), .val (.ref aC), .val (.int (sr &&& (2147483647 : Int32))), .val (.int ((tr &&& (2097151 : Int32)) + (1 : Int32))), .val (.double (FP.ddiv (FP.i2d (sr &&& (2147483647 : Int32))) (4616189618054758400 : UInt64))), .second, .val (.double (FP.i2d av)), .second, .val (.double (FP.ddiv (FP.i2d ((tr &&& (2097151 : Int32)) + (1 : Int32))) (4620693217682128896 : UInt64))), .second, .val (.double (own_es (FP.ddiv (FP.i2d (sr &&& (2147483647 : Int32))) (4616189618054758400 : UInt64)) (FP.i2d av) (FP.ddiv (FP.i2d ((tr &&& (2097151 : Int32)) + (1 : Int32))) (4620693217682128896 : UInt64)))), .second, .val (.long (((2 : Int64) * ((sr &&& (2147483647 : Int32)).toInt64)) + ((av.toInt64) * (((tr &&& (2097151 : Int32)) + (1 : Int32)).toInt64)))), .second, .unset, .unset] [(.double (FP.l2d (((2 : Int64) * ((sr &&& (2147483647 : Int32)).toInt64)) + ((av.toInt64) * (((tr &&& (2097151 : Int32)) + (1 : Int32)).toInt64)))))])) rfl (hb hby at_96) _ ?_
        show Steps p.tables e below (T5.setTop (mkF m 99 #[.val (.int sr), .val (.int av), .val (.int tr), .val (.int kv), .val (.ref aC), .val (.int (sr &&& (2147483647 : Int32))), .val (.int ((tr &&& (2097151 : Int32)) + (1 : Int32))), .val (.double (FP.ddiv (FP.i2d (sr &&& (2147483647 : Int32))) (4616189618054758400 : UInt64))), .second, .val (.double (FP.i2d av)), .second, .val (.double (FP.ddiv (FP.i2d ((tr &&& (2097151 : Int32)) + (1 : Int32))) (4620693217682128896 : UInt64))), .second, .val (.double (own_es (FP.ddiv (FP.i2d (sr &&& (2147483647 : Int32))) (4616189618054758400 : UInt64)) (FP.i2d av) (FP.ddiv (FP.i2d ((tr &&& (2097151 : Int32)) + (1 : Int32))) (4620693217682128896 : UInt64)))), .second, .val (.long (((2 : Int64) * ((sr &&& (2147483647 : Int32)).toInt64)) + ((av.toInt64) * (((tr &&& (2097151 : Int32)) + (1 : Int32)).toInt64)))), .second, .unset, .unset] [(.double (4620693217682128896 : UInt64)), (.double (FP.l2d (((2 : Int64) * ((sr &&& (2147483647 : Int32)).toInt64)) + ((av.toInt64) * (((tr &&& (2097151 : Int32)) + (1 : Int32)).toInt64)))))])) _
        refine XS.ddivS X9.here hx rfl (hb hby at_99) rfl (own_ex_dy sr av tr).no rfl ?_
        show Steps p.tables e below (T5.setTop (mkF m 100 #[.val (.int sr), .val (.int av), .val (.int tr), .val (.int kv), .val (.ref aC), .val (.int (sr &&& (2147483647 : Int32))), .val (.int ((tr &&& (2097151 : Int32)) + (1 : Int32))), .val (.double (FP.ddiv (FP.i2d (sr &&& (2147483647 : Int32))) (4616189618054758400 : UInt64))), .second, .val (.double (FP.i2d av)), .second, .val (.double (FP.ddiv (FP.i2d ((tr &&& (2097151 : Int32)) + (1 : Int32))) (4620693217682128896 : UInt64))), .second, .val (.double (own_es (FP.ddiv (FP.i2d (sr &&& (2147483647 : Int32))) (4616189618054758400 : UInt64)) (FP.i2d av) (FP.ddiv (FP.i2d ((tr &&& (2097151 : Int32)) + (1 : Int32))) (4620693217682128896 : UInt64)))), .second, .val (.long (((2 : Int64) * ((sr &&& (2147483647 : Int32)).toInt64)) + ((av.toInt64) * (((tr &&& (2097151 : Int32)) + (1 : Int32)).toInt64)))), .second, .unset, .unset] [(.double (FP.ddiv (FP.l2d (((2 : Int64) * ((sr &&& (2147483647 : Int32)).toInt64)) + ((av.toInt64) * (((tr &&& (2097151 : Int32)) + (1 : Int32)).toInt64)))) (4620693217682128896 : UInt64)))])) _
        refine XS.dstore X9.here hx rfl (hb hby at_100) rfl (l' := #[.val (.int sr), .val (.int av), .val (.int tr), .val (.int kv), .val (.ref aC), .val (.int (sr &&& (2147483647 : Int32))), .val (.int ((tr &&& (2097151 : Int32)) + (1 : Int32))), .val (.double (FP.ddiv (FP.i2d (sr &&& (2147483647 : Int32))) (4616189618054758400 : UInt64))), .second, .val (.double (FP.i2d av)), .second, .val (.double (FP.ddiv (FP.i2d ((tr &&& (2097151 : Int32)) + (1 : Int32))) (4620693217682128896 : UInt64))), .second, .val (.double (own_es (FP.ddiv (FP.i2d (sr &&& (2147483647 : Int32))) (4616189618054758400 : UInt64)) (FP.i2d av) (FP.ddiv (FP.i2d ((tr &&& (2097151 : Int32)) + (1 : Int32))) (4620693217682128896 : UInt64)))), .second, .val (.long (((2 : Int64) * ((sr &&& (2147483647 : Int32)).toInt64)) + ((av.toInt64) * (((tr &&& (2097151 : Int32)) + (1 : Int32)).toInt64)))), .second, .val (.double (FP.ddiv (FP.l2d (((2 : Int64) * ((sr &&& (2147483647 : Int32)).toInt64)) + ((av.toInt64) * (((tr &&& (2097151 : Int32)) + (1 : Int32)).toInt64)))) (4620693217682128896 : UInt64))), .second]) rfl ?_
        show Steps p.tables e below (T5.setTop (mkF m 102 #[.val (.int sr), .val (.int av), .val (.int tr), .val (.int kv), .val (.ref aC), .val (.int (sr &&& (2147483647 : Int32))), .val (.int ((tr &&& (2097151 : Int32)) + (1 : Int32))), .val (.double (FP.ddiv (FP.i2d (sr &&& (2147483647 : Int32))) (4616189618054758400 : UInt64))), .second, .val (.double (FP.i2d av)), .second, .val (.double (FP.ddiv (FP.i2d ((tr &&& (2097151 : Int32)) + (1 : Int32))) (4620693217682128896 : UInt64))), .second, .val (.double (own_es (FP.ddiv (FP.i2d (sr &&& (2147483647 : Int32))) (4616189618054758400 : UInt64)) (FP.i2d av) (FP.ddiv (FP.i2d ((tr &&& (2097151 : Int32)) + (1 : Int32))) (4620693217682128896 : UInt64)))), .second, .val (.long (((2 : Int64) * ((sr &&& (2147483647 : Int32)).toInt64)) + ((av.toInt64) * (((tr &&& (2097151 : Int32)) + (1 : Int32)).toInt64)))), .second, .val (.double (FP.ddiv (FP.l2d (((2 : Int64) * ((sr &&& (2147483647 : Int32)).toInt64)) + ((av.toInt64) * (((tr &&& (2097151 : Int32)) + (1 : Int32)).toInt64)))) (4620693217682128896 : UInt64))), .second] [])) _
        refine XS.dload X9.here hx rfl (hb hby at_102) rfl ?_
        show Steps p.tables e below (T5.setTop (mkF m 104 #[.val (.int sr), .val (.int av), .val (.int tr), .val (.int kv), .val (.ref aC), .val (.int (sr &&& (2147483647 : Int32))), .val (.int ((tr &&& (2097151 : Int32)) + (1 : Int32))), .val (.double (FP.ddiv (FP.i2d (sr &&& (2147483647 : Int32))) (4616189618054758400 : UInt64))), .second, .val (.double (FP.i2d av)), .second, .val (.double (FP.ddiv (FP.i2d ((tr &&& (2097151 : Int32)) + (1 : Int32))) (4620693217682128896 : UInt64))), .second, .val (.double (own_es (FP.ddiv (FP.i2d (sr &&& (2147483647 : Int32))) (4616189618054758400 : UInt64)) (FP.i2d av) (FP.ddiv (FP.i2d ((tr &&& (2097151 : Int32)) + (1 : Int32))) (4620693217682128896 : UInt64)))), .second, .val (.long (((2 : Int64) * ((sr &&& (2147483647 : Int32)).toInt64)) + ((av.toInt64) * (((tr &&& (2097151 : Int32)) + (1 : Int32)).toInt64)))), .second, .val (.double (FP.ddiv (FP.l2d (((2 : Int64) * ((sr &&& (2147483647 : Int32)).toInt64)) + ((av.toInt64) * (((tr &&& (2097151 : Int32)) + (1 : Int32)).toInt64)))) (4620693217682128896 : UInt64))), .second] [(.double (own_es (FP.ddiv (FP.i2d (sr &&& (2147483647 : Int32))) (4616189618054758400 : UInt64)) (FP.i2d av) (FP.ddiv (FP.i2d ((tr &&& (2097151 : Int32)) + (1 : Int32))) (4620693217682128896 : UInt64))))])) _
        refine XS.dload X9.here hx rfl (hb hby at_104) rfl ?_
        show Steps p.tables e below (T5.setTop (mkF m 106 #[.val (.int sr), .val (.int av), .val (.int tr), .val (.int kv), .val (.ref aC), .val (.int (sr &&& (2147483647 : Int32))), .val (.int ((tr &&& (2097151 : Int32)) + (1 : Int32))), .val (.double (FP.ddiv (FP.i2d (sr &&& (2147483647 : Int32))) (4616189618054758400 : UInt64))), .second, .val (.double (FP.i2d av)), .second, .val (.double (FP.ddiv (FP.i2d ((tr &&& (2097151 : Int32)) + (1 : Int32))) (4620693217682128896 : UInt64))), .second, .val (.double (own_es (FP.ddiv (FP.i2d (sr &&& (2147483647 : Int32))) (4616189618054758400 : UInt64)) (FP.i2d av) (FP.ddiv (FP.i2d ((tr &&& (2097151 : Int32)) + (1 : Int32))) (4620693217682128896 : UInt64)))), .second, .val (.long (((2 : Int64) * ((sr &&& (2147483647 : Int32)).toInt64)) + ((av.toInt64) * (((tr &&& (2097151 : Int32)) + (1 : Int32)).toInt64)))), .second, .val (.double (FP.ddiv (FP.l2d (((2 : Int64) * ((sr &&& (2147483647 : Int32)).toInt64)) + ((av.toInt64) * (((tr &&& (2097151 : Int32)) + (1 : Int32)).toInt64)))) (4620693217682128896 : UInt64))), .second] [(.double (FP.ddiv (FP.l2d (((2 : Int64) * ((sr &&& (2147483647 : Int32)).toInt64)) + ((av.toInt64) * (((tr &&& (2097151 : Int32)) + (1 : Int32)).toInt64)))) (4620693217682128896 : UInt64))), (.double (own_es (FP.ddiv (FP.i2d (sr &&& (2147483647 : Int32))) (4616189618054758400 : UInt64)) (FP.i2d av) (FP.ddiv (FP.i2d ((tr &&& (2097151 : Int32)) + (1 : Int32))) (4620693217682128896 : UInt64))))])) _
        refine XS.dcmpS X9.here hx rfl (hb hby at_106) rfl (own_fin2 sr av tr c86) ?_
        show Steps p.tables e below (T5.setTop (mkF m 107 #[.val (.int sr), .val (.int av), .val (.int tr), .val (.int kv), .val (.ref aC), .val (.int (sr &&& (2147483647 : Int32))), .val (.int ((tr &&& (2097151 : Int32)) + (1 : Int32))), .val (.double (FP.ddiv (FP.i2d (sr &&& (2147483647 : Int32))) (4616189618054758400 : UInt64))), .second, .val (.double (FP.i2d av)), .second, .val (.double (FP.ddiv (FP.i2d ((tr &&& (2097151 : Int32)) + (1 : Int32))) (4620693217682128896 : UInt64))), .second, .val (.double (own_es (FP.ddiv (FP.i2d (sr &&& (2147483647 : Int32))) (4616189618054758400 : UInt64)) (FP.i2d av) (FP.ddiv (FP.i2d ((tr &&& (2097151 : Int32)) + (1 : Int32))) (4620693217682128896 : UInt64)))), .second, .val (.long (((2 : Int64) * ((sr &&& (2147483647 : Int32)).toInt64)) + ((av.toInt64) * (((tr &&& (2097151 : Int32)) + (1 : Int32)).toInt64)))), .second, .val (.double (FP.ddiv (FP.l2d (((2 : Int64) * ((sr &&& (2147483647 : Int32)).toInt64)) + ((av.toInt64) * (((tr &&& (2097151 : Int32)) + (1 : Int32)).toInt64)))) (4620693217682128896 : UInt64))), .second] [(.int (0 : Int32))])) _
        refine XS.ifNo X9.here hx rfl (hb hby at_107) rfl (by decide) ?_
        show Steps p.tables e below (T5.setTop (mkF m 110 #[.val (.int sr), .val (.int av), .val (.int tr), .val (.int kv), .val (.ref aC), .val (.int (sr &&& (2147483647 : Int32))), .val (.int ((tr &&& (2097151 : Int32)) + (1 : Int32))), .val (.double (FP.ddiv (FP.i2d (sr &&& (2147483647 : Int32))) (4616189618054758400 : UInt64))), .second, .val (.double (FP.i2d av)), .second, .val (.double (FP.ddiv (FP.i2d ((tr &&& (2097151 : Int32)) + (1 : Int32))) (4620693217682128896 : UInt64))), .second, .val (.double (own_es (FP.ddiv (FP.i2d (sr &&& (2147483647 : Int32))) (4616189618054758400 : UInt64)) (FP.i2d av) (FP.ddiv (FP.i2d ((tr &&& (2097151 : Int32)) + (1 : Int32))) (4620693217682128896 : UInt64)))), .second, .val (.long (((2 : Int64) * ((sr &&& (2147483647 : Int32)).toInt64)) + ((av.toInt64) * (((tr &&& (2097151 : Int32)) + (1 : Int32)).toInt64)))), .second, .val (.double (FP.ddiv (FP.l2d (((2 : Int64) * ((sr &&& (2147483647 : Int32)).toInt64)) + ((av.toInt64) * (((tr &&& (2097151 : Int32)) + (1 : Int32)).toInt64)))) (4620693217682128896 : UInt64))), .second] [])) _
        refine XS.iconst X9.here hx rfl (hb hby at_110) ?_
        show Steps p.tables e below (T5.setTop (mkF m 111 #[.val (.int sr), .val (.int av), .val (.int tr), .val (.int kv), .val (.ref aC), .val (.int (sr &&& (2147483647 : Int32))), .val (.int ((tr &&& (2097151 : Int32)) + (1 : Int32))), .val (.double (FP.ddiv (FP.i2d (sr &&& (2147483647 : Int32))) (4616189618054758400 : UInt64))), .second, .val (.double (FP.i2d av)), .second, .val (.double (FP.ddiv (FP.i2d ((tr &&& (2097151 : Int32)) + (1 : Int32))) (4620693217682128896 : UInt64))), .second, .val (.double (own_es (FP.ddiv (FP.i2d (sr &&& (2147483647 : Int32))) (4616189618054758400 : UInt64)) (FP.i2d av) (FP.ddiv (FP.i2d ((tr &&& (2097151 : Int32)) + (1 : Int32))) (4620693217682128896 : UInt64)))), .second, .val (.long (((2 : Int64) * ((sr &&& (2147483647 : Int32)).toInt64)) + ((av.toInt64) * (((tr &&& (2097151 : Int32)) + (1 : Int32)).toInt64)))), .second, .val (.double (FP.ddiv (FP.l2d (((2 : Int64) * ((sr &&& (2147483647 : Int32)).toInt64)) + ((av.toInt64) * (((tr &&& (2097151 : Int32)) + (1 : Int32)).toInt64)))) (4620693217682128896 : UInt64))), .second] [(.int (1 : Int32))])) _
        refine XS.goto X9.here hx rfl (pc0 := 111) (pc' := 115) rfl (hb hby at_111) (by decide) (by decide) ?_
        show Steps p.tables e below (T5.setTop (mkF m 115 #[.val (.int sr), .val (.int av), .val (.int tr), .val (.int kv), .val (.ref aC), .val (.int (sr &&& (2147483647 : Int32))), .val (.int ((tr &&& (2097151 : Int32)) + (1 : Int32))), .val (.double (FP.ddiv (FP.i2d (sr &&& (2147483647 : Int32))) (4616189618054758400 : UInt64))), .second, .val (.double (FP.i2d av)), .second, .val (.double (FP.ddiv (FP.i2d ((tr &&& (2097151 : Int32)) + (1 : Int32))) (4620693217682128896 : UInt64))), .second, .val (.double (own_es (FP.ddiv (FP.i2d (sr &&& (2147483647 : Int32))) (4616189618054758400 : UInt64)) (FP.i2d av) (FP.ddiv (FP.i2d ((tr &&& (2097151 : Int32)) + (1 : Int32))) (4620693217682128896 : UInt64)))), .second, .val (.long (((2 : Int64) * ((sr &&& (2147483647 : Int32)).toInt64)) + ((av.toInt64) * (((tr &&& (2097151 : Int32)) + (1 : Int32)).toInt64)))), .second, .val (.double (FP.ddiv (FP.l2d (((2 : Int64) * ((sr &&& (2147483647 : Int32)).toInt64)) + ((av.toInt64) * (((tr &&& (2097151 : Int32)) + (1 : Int32)).toInt64)))) (4620693217682128896 : UInt64))), .second] [(.int (1 : Int32))])) _
        exact hh)
      obtain ⟨fs, hr, hrun, hended, hW, hsame⟩ := X9.leave (v := some (.int (1 : Int32))) (fun h => by rw [Bd.returns] at h; cases h)
      refine ⟨_, _, k8 _ (retN X9 hx (t := .boolean) Bd.returns (by simp) (hb hby at_115) hr), hrun, hended, _, _, rfl, ?_, ⟨_, rfl⟩, hW, hsame.mono (by decide) (by decide)⟩
      show QL h0 n0 _ T5.heap _
      rw [e22]
      exact ⟨rfl, N23⟩
  ·
    have k9 : own_K p e below (s₁.setTop (mkF m 12 #[.val (.int sr), .val (.int av), .val (.int tr), .val (.int kv), .unset, .unset, .unset, .unset, .unset, .unset, .unset, .unset, .unset, .unset, .unset, .unset, .unset, .unset, .unset] [])) (s₁.setTop (entryFrame m #[(.int sr), (.int av), (.int tr), (.int kv)] maxLocals)) := fun t hh => k1 t (by
      refine XS.ifYes X0.here hx rfl (pc0 := 3) (pc' := 12) rfl (hb hby at_3) rfl (own_ifT_ne c3) (by decide) (by decide) ?_
      show Steps p.tables e below (s₁.setTop (mkF m 12 #[.val (.int sr), .val (.int av), .val (.int tr), .val (.int kv), .unset, .unset, .unset, .unset, .unset, .unset, .unset, .unset, .unset, .unset, .unset, .unset, .unset, .unset, .unset] [])) _
      exact hh)
    obtain ⟨T24, X25, e26, st27⟩ := getS X0 hx hZ hown (host := "") (wT hw 0 rfl) Via.refl e0 sE (g := (mkF m 12 #[.val (.int sr), .val (.int av), .val (.int tr), .val (.int kv), .unset, .unset, .unset, .unset, .unset, .unset, .unset, .unset, .unset, .unset, .unset, .unset, .unset, .unset, .unset] [])) rfl (hb hby at_12)
    have k10 : own_K p e below (T24.setTop (mkF m 15 #[.val (.int sr), .val (.int av), .val (.int tr), .val (.int kv), .unset, .unset, .unset, .unset, .unset, .unset, .unset, .unset, .unset, .unset, .unset, .unset, .unset, .unset, .unset] [(.ref aE)])) (s₁.setTop (entryFrame m #[(.int sr), (.int av), (.int tr), (.int kv)] maxLocals)) := fun t hh => k9 t (st27 t hh)
    have k11 : own_K p e below (T24.setTop (mkF m 61 #[.val (.int sr), .val (.int av), .val (.int tr), .val (.int kv), .val (.ref aE), .val (.int (sr &&& (2147483647 : Int32))), .val (.int ((tr &&& (2097151 : Int32)) + (1 : Int32))), .val (.double (FP.ddiv (FP.i2d (sr &&& (2147483647 : Int32))) (4616189618054758400 : UInt64))), .second, .val (.double (FP.i2d av)), .second, .val (.double (FP.ddiv (FP.i2d ((tr &&& (2097151 : Int32)) + (1 : Int32))) (4620693217682128896 : UInt64))), .second, .unset, .unset, .unset, .unset, .unset, .unset] [(.double (FP.ddiv (FP.i2d ((tr &&& (2097151 : Int32)) + (1 : Int32))) (4620693217682128896 : UInt64))), (.double (FP.i2d av)), (.double (FP.ddiv (FP.i2d (sr &&& (2147483647 : Int32))) (4616189618054758400 : UInt64))), (.ref aE)])) (s₁.setTop (entryFrame m #[(.int sr), (.int av), (.int tr), (.int kv)] maxLocals)) := fun t hh => k10 t (by
      refine XS.astore X25.here hx rfl (hb hby at_15) rfl rfl (l' := #[.val (.int sr), .val (.int av), .val (.int tr), .val (.int kv), .val (.ref aE), .unset, .unset, .unset, .unset, .unset, .unset, .unset, .unset, .unset, .unset, .unset, .unset, .unset, .unset]) rfl ?_
      show Steps p.tables e below (T24.setTop (mkF m 17 #[.val (.int sr), .val (.int av), .val (.int tr), .val (.int kv), .val (.ref aE), .unset, .unset, .unset, .unset, .unset, .unset, .unset, .unset, .unset, .unset, .unset, .unset, .unset, .unset] [])) _
      refine XS.iloadN X25.here hx rfl (hb hby at_17) rfl ?_
      show Steps p.tables e below (T24.setTop (mkF m 18 #[.val (.int sr), .val (.int av), .val (.int tr), .val (.int kv), .val (.ref aE), .unset, .unset, .unset, .unset, .unset, .unset, .unset, .unset, .unset, .unset, .unset, .unset, .unset, .unset] [(.int sr)])) _
      refine X25.ldcInt hx hown (mvT hZ (wT hw 3 rfl)) (g := (mkF m 18 #[.val (.int sr), .val (.int av), .val (.int tr), .val (.int kv), .val (.ref aE), .unset, .unset, .unset, .unset, .unset, .unset, .unset, .unset, .unset, .unset, .unset, .unset, .unset, .unset] [(.int sr)])) rfl (hb hby at_18) _ ?_
      show Steps p.tables e below (T24.setTop (mkF m 20 #[.val (.int sr), .val (.int av), .val (.int tr), .val (.int kv), .val (.ref aE), .unset, .unset, .unset, .unset, .unset, .unset, .unset, .unset, .unset, .unset, .unset, .unset, .unset, .unset] [(.int (2147483647 : Int32)), (.int sr)])) _
      refine XS.iand X25.here hx rfl (hb hby at_20) rfl ?_
      show Steps p.tables e below (T24.setTop (mkF m 21 #[.val (.int sr), .val (.int av), .val (.int tr), .val (.int kv), .val (.ref aE), .unset, .unset, .unset, .unset, .unset, .unset, .unset, .unset, .unset, .unset, .unset, .unset, .unset, .unset] [(.int (sr &&& (2147483647 : Int32)))])) _
      refine XS.istore X25.here hx rfl (hb hby at_21) rfl (l' := #[.val (.int sr), .val (.int av), .val (.int tr), .val (.int kv), .val (.ref aE), .val (.int (sr &&& (2147483647 : Int32))), .unset, .unset, .unset, .unset, .unset, .unset, .unset, .unset, .unset, .unset, .unset, .unset, .unset]) rfl ?_
      show Steps p.tables e below (T24.setTop (mkF m 23 #[.val (.int sr), .val (.int av), .val (.int tr), .val (.int kv), .val (.ref aE), .val (.int (sr &&& (2147483647 : Int32))), .unset, .unset, .unset, .unset, .unset, .unset, .unset, .unset, .unset, .unset, .unset, .unset, .unset] [])) _
      refine XS.iloadN X25.here hx rfl (hb hby at_23) rfl ?_
      show Steps p.tables e below (T24.setTop (mkF m 24 #[.val (.int sr), .val (.int av), .val (.int tr), .val (.int kv), .val (.ref aE), .val (.int (sr &&& (2147483647 : Int32))), .unset, .unset, .unset, .unset, .unset, .unset, .unset, .unset, .unset, .unset, .unset, .unset, .unset] [(.int tr)])) _
      refine X25.ldcInt hx hown (mvT hZ (wT hw 4 rfl)) (g := (mkF m 24 #[.val (.int sr), .val (.int av), .val (.int tr), .val (.int kv), .val (.ref aE), .val (.int (sr &&& (2147483647 : Int32))), .unset, .unset, .unset, .unset, .unset, .unset, .unset, .unset, .unset, .unset, .unset, .unset, .unset] [(.int tr)])) rfl (hb hby at_24) _ ?_
      show Steps p.tables e below (T24.setTop (mkF m 26 #[.val (.int sr), .val (.int av), .val (.int tr), .val (.int kv), .val (.ref aE), .val (.int (sr &&& (2147483647 : Int32))), .unset, .unset, .unset, .unset, .unset, .unset, .unset, .unset, .unset, .unset, .unset, .unset, .unset] [(.int (2097151 : Int32)), (.int tr)])) _
      refine XS.iand X25.here hx rfl (hb hby at_26) rfl ?_
      show Steps p.tables e below (T24.setTop (mkF m 27 #[.val (.int sr), .val (.int av), .val (.int tr), .val (.int kv), .val (.ref aE), .val (.int (sr &&& (2147483647 : Int32))), .unset, .unset, .unset, .unset, .unset, .unset, .unset, .unset, .unset, .unset, .unset, .unset, .unset] [(.int (tr &&& (2097151 : Int32)))])) _
      refine XS.iconst X25.here hx rfl (hb hby at_27) ?_
      show Steps p.tables e below (T24.setTop (mkF m 28 #[.val (.int sr), .val (.int av), .val (.int tr), .val (.int kv), .val (.ref aE), .val (.int (sr &&& (2147483647 : Int32))), .unset, .unset, .unset, .unset, .unset, .unset, .unset, .unset, .unset, .unset, .unset, .unset, .unset] [(.int (1 : Int32)), (.int (tr &&& (2097151 : Int32)))])) _
      refine XS.iadd X25.here hx rfl (hb hby at_28) rfl ?_
      show Steps p.tables e below (T24.setTop (mkF m 29 #[.val (.int sr), .val (.int av), .val (.int tr), .val (.int kv), .val (.ref aE), .val (.int (sr &&& (2147483647 : Int32))), .unset, .unset, .unset, .unset, .unset, .unset, .unset, .unset, .unset, .unset, .unset, .unset, .unset] [(.int ((tr &&& (2097151 : Int32)) + (1 : Int32)))])) _
      refine XS.istore X25.here hx rfl (hb hby at_29) rfl (l' := #[.val (.int sr), .val (.int av), .val (.int tr), .val (.int kv), .val (.ref aE), .val (.int (sr &&& (2147483647 : Int32))), .val (.int ((tr &&& (2097151 : Int32)) + (1 : Int32))), .unset, .unset, .unset, .unset, .unset, .unset, .unset, .unset, .unset, .unset, .unset, .unset]) rfl ?_
      show Steps p.tables e below (T24.setTop (mkF m 31 #[.val (.int sr), .val (.int av), .val (.int tr), .val (.int kv), .val (.ref aE), .val (.int (sr &&& (2147483647 : Int32))), .val (.int ((tr &&& (2097151 : Int32)) + (1 : Int32))), .unset, .unset, .unset, .unset, .unset, .unset, .unset, .unset, .unset, .unset, .unset, .unset] [])) _
      refine XS.iload X25.here hx rfl (hb hby at_31) rfl ?_
      show Steps p.tables e below (T24.setTop (mkF m 33 #[.val (.int sr), .val (.int av), .val (.int tr), .val (.int kv), .val (.ref aE), .val (.int (sr &&& (2147483647 : Int32))), .val (.int ((tr &&& (2097151 : Int32)) + (1 : Int32))), .unset, .unset, .unset, .unset, .unset, .unset, .unset, .unset, .unset, .unset, .unset, .unset] [(.int (sr &&& (2147483647 : Int32)))])) _
      refine XS.i2dS X25.here hx rfl (hb hby at_33) rfl rfl ?_
      show Steps p.tables e below (T24.setTop (mkF m 34 #[.val (.int sr), .val (.int av), .val (.int tr), .val (.int kv), .val (.ref aE), .val (.int (sr &&& (2147483647 : Int32))), .val (.int ((tr &&& (2097151 : Int32)) + (1 : Int32))), .unset, .unset, .unset, .unset, .unset, .unset, .unset, .unset, .unset, .unset, .unset, .unset] [(.double (FP.i2d (sr &&& (2147483647 : Int32))))])) _
      refine X25.ldc2DoubleC hx hown (mvT hZ (wT hw 5 rfl)) (g := (mkF m 34 #[.val (.int sr), .val (.int av), .val (.int tr), .val (.int kv), .val (.ref aE), .val (.int (sr &&& (2147483647 : Int32))), .val (.int ((tr &&& (2097151 : Int32)) + (1 : Int32))), .unset, .unset, .unset, .unset, .unset, .unset, .unset, .unset, .unset, .unset, .unset, .unset] [(.double (FP.i2d (sr &&& (2147483647 : Int32))))])) rfl (hb hby at_34) _ ?_
      show Steps p.tables e below (T24.setTop (mkF m 37 #[.val (.int sr), .val (.int av), .val (.int tr), .val (.int kv), .val (.ref aE), .val (.int (sr &&& (2147483647 : Int32))), .val (.int ((tr &&& (2097151 : Int32)) + (1 : Int32))), .unset, .unset, .unset, .unset, .unset, .unset, .unset, .unset, .unset, .unset, .unset, .unset] [(.double (4616189618054758400 : UInt64)), (.double (FP.i2d (sr &&& (2147483647 : Int32))))])) _
      refine XS.ddivS X25.here hx rfl (hb hby at_37) rfl (own_sp_dy sr).no rfl ?_
      show Steps p.tables e below (T24.setTop (mkF m 38 #[.val (.int sr), .val (.int av), .val (.int tr), .val (.int kv), .val (.ref aE), .val (.int (sr &&& (2147483647 : Int32))), .val (.int ((tr &&& (2097151 : Int32)) + (1 : Int32))), .unset, .unset, .unset, .unset, .unset, .unset, .unset, .unset, .unset, .unset, .unset, .unset] [(.double (FP.ddiv (FP.i2d (sr &&& (2147483647 : Int32))) (4616189618054758400 : UInt64)))])) _
      refine XS.dstore X25.here hx rfl (hb hby at_38) rfl (l' := #[.val (.int sr), .val (.int av), .val (.int tr), .val (.int kv), .val (.ref aE), .val (.int (sr &&& (2147483647 : Int32))), .val (.int ((tr &&& (2097151 : Int32)) + (1 : Int32))), .val (.double (FP.ddiv (FP.i2d (sr &&& (2147483647 : Int32))) (4616189618054758400 : UInt64))), .second, .unset, .unset, .unset, .unset, .unset, .unset, .unset, .unset, .unset, .unset]) rfl ?_
      show Steps p.tables e below (T24.setTop (mkF m 40 #[.val (.int sr), .val (.int av), .val (.int tr), .val (.int kv), .val (.ref aE), .val (.int (sr &&& (2147483647 : Int32))), .val (.int ((tr &&& (2097151 : Int32)) + (1 : Int32))), .val (.double (FP.ddiv (FP.i2d (sr &&& (2147483647 : Int32))) (4616189618054758400 : UInt64))), .second, .unset, .unset, .unset, .unset, .unset, .unset, .unset, .unset, .unset, .unset] [])) _
      refine XS.iloadN X25.here hx rfl (hb hby at_40) rfl ?_
      show Steps p.tables e below (T24.setTop (mkF m 41 #[.val (.int sr), .val (.int av), .val (.int tr), .val (.int kv), .val (.ref aE), .val (.int (sr &&& (2147483647 : Int32))), .val (.int ((tr &&& (2097151 : Int32)) + (1 : Int32))), .val (.double (FP.ddiv (FP.i2d (sr &&& (2147483647 : Int32))) (4616189618054758400 : UInt64))), .second, .unset, .unset, .unset, .unset, .unset, .unset, .unset, .unset, .unset, .unset] [(.int av)])) _
      refine XS.i2dS X25.here hx rfl (hb hby at_41) rfl rfl ?_
      show Steps p.tables e below (T24.setTop (mkF m 42 #[.val (.int sr), .val (.int av), .val (.int tr), .val (.int kv), .val (.ref aE), .val (.int (sr &&& (2147483647 : Int32))), .val (.int ((tr &&& (2097151 : Int32)) + (1 : Int32))), .val (.double (FP.ddiv (FP.i2d (sr &&& (2147483647 : Int32))) (4616189618054758400 : UInt64))), .second, .unset, .unset, .unset, .unset, .unset, .unset, .unset, .unset, .unset, .unset] [(.double (FP.i2d av))])) _
      refine XS.dstore X25.here hx rfl (hb hby at_42) rfl (l' := #[.val (.int sr), .val (.int av), .val (.int tr), .val (.int kv), .val (.ref aE), .val (.int (sr &&& (2147483647 : Int32))), .val (.int ((tr &&& (2097151 : Int32)) + (1 : Int32))), .val (.double (FP.ddiv (FP.i2d (sr &&& (2147483647 : Int32))) (4616189618054758400 : UInt64))), .second, .val (.double (FP.i2d av)), .second, .unset, .unset, .unset, .unset, .unset, .unset, .unset, .unset]) rfl ?_
      show Steps p.tables e below (T24.setTop (mkF m 44 #[.val (.int sr), .val (.int av), .val (.int tr), .val (.int kv), .val (.ref aE), .val (.int (sr &&& (2147483647 : Int32))), .val (.int ((tr &&& (2097151 : Int32)) + (1 : Int32))), .val (.double (FP.ddiv (FP.i2d (sr &&& (2147483647 : Int32))) (4616189618054758400 : UInt64))), .second, .val (.double (FP.i2d av)), .second, .unset, .unset, .unset, .unset, .unset, .unset, .unset, .unset] [])) _
      refine XS.iload X25.here hx rfl (hb hby at_44) rfl ?_
      show Steps p.tables e below (T24.setTop (mkF m 46 #[.val (.int sr), .val (.int av), .val (.int tr), .val (.int kv), .val (.ref aE), .val (.int (sr &&& (2147483647 : Int32))), .val (.int ((tr &&& (2097151 : Int32)) + (1 : Int32))), .val (.double (FP.ddiv (FP.i2d (sr &&& (2147483647 : Int32))) (4616189618054758400 : UInt64))), .second, .val (.double (FP.i2d av)), .second, .unset, .unset, .unset, .unset, .unset, .unset, .unset, .unset] [(.int ((tr &&& (2097151 : Int32)) + (1 : Int32)))])) _
      refine XS.i2dS X25.here hx rfl (hb hby at_46) rfl rfl ?_
      show Steps p.tables e below (T24.setTop (mkF m 47 #[.val (.int sr), .val (.int av), .val (.int tr), .val (.int kv), .val (.ref aE), .val (.int (sr &&& (2147483647 : Int32))), .val (.int ((tr &&& (2097151 : Int32)) + (1 : Int32))), .val (.double (FP.ddiv (FP.i2d (sr &&& (2147483647 : Int32))) (4616189618054758400 : UInt64))), .second, .val (.double (FP.i2d av)), .second, .unset, .unset, .unset, .unset, .unset, .unset, .unset, .unset] [(.double (FP.i2d ((tr &&& (2097151 : Int32)) + (1 : Int32))))])) _
      refine X25.ldc2DoubleC hx hown (mvT hZ (wT hw 6 rfl)) (g := (mkF m 47 #[.val (.int sr), .val (.int av), .val (.int tr), .val (.int kv), .val (.ref aE), .val (.int (sr &&& (2147483647 : Int32))), .val (.int ((tr &&& (2097151 : Int32)) + (1 : Int32))), .val (.double (FP.ddiv (FP.i2d (sr &&& (2147483647 : Int32))) (4616189618054758400 : UInt64))), .second, .val (.double (FP.i2d av)), .second, .unset, .unset, .unset, .unset, .unset, .unset, .unset, .unset] [(.double (FP.i2d ((tr &&& (2097151 : Int32)) + (1 : Int32))))])) rfl (hb hby at_47) _ ?_
      show Steps p.tables e below (T24.setTop (mkF m 50 #[.val (.int sr), .val (.int av), .val (.int tr), .val (.int kv), .val (.ref aE), .val (.int (sr &&& (2147483647 : Int32))), .val (.int ((tr &&& (2097151 : Int32)) + (1 : Int32))), .val (.double (FP.ddiv (FP.i2d (sr &&& (2147483647 : Int32))) (4616189618054758400 : UInt64))), .second, .val (.double (FP.i2d av)), .second, .unset, .unset, .unset, .unset, .unset, .unset, .unset, .unset] [(.double (4620693217682128896 : UInt64)), (.double (FP.i2d ((tr &&& (2097151 : Int32)) + (1 : Int32))))])) _
      refine XS.ddivS X25.here hx rfl (hb hby at_50) rfl (own_ts_dy tr).no rfl ?_
      show Steps p.tables e below (T24.setTop (mkF m 51 #[.val (.int sr), .val (.int av), .val (.int tr), .val (.int kv), .val (.ref aE), .val (.int (sr &&& (2147483647 : Int32))), .val (.int ((tr &&& (2097151 : Int32)) + (1 : Int32))), .val (.double (FP.ddiv (FP.i2d (sr &&& (2147483647 : Int32))) (4616189618054758400 : UInt64))), .second, .val (.double (FP.i2d av)), .second, .unset, .unset, .unset, .unset, .unset, .unset, .unset, .unset] [(.double (FP.ddiv (FP.i2d ((tr &&& (2097151 : Int32)) + (1 : Int32))) (4620693217682128896 : UInt64)))])) _
      refine XS.dstore X25.here hx rfl (hb hby at_51) rfl (l' := #[.val (.int sr), .val (.int av), .val (.int tr), .val (.int kv), .val (.ref aE), .val (.int (sr &&& (2147483647 : Int32))), .val (.int ((tr &&& (2097151 : Int32)) + (1 : Int32))), .val (.double (FP.ddiv (FP.i2d (sr &&& (2147483647 : Int32))) (4616189618054758400 : UInt64))), .second, .val (.double (FP.i2d av)), .second, .val (.double (FP.ddiv (FP.i2d ((tr &&& (2097151 : Int32)) + (1 : Int32))) (4620693217682128896 : UInt64))), .second, .unset, .unset, .unset, .unset, .unset, .unset]) rfl ?_
      show Steps p.tables e below (T24.setTop (mkF m 53 #[.val (.int sr), .val (.int av), .val (.int tr), .val (.int kv), .val (.ref aE), .val (.int (sr &&& (2147483647 : Int32))), .val (.int ((tr &&& (2097151 : Int32)) + (1 : Int32))), .val (.double (FP.ddiv (FP.i2d (sr &&& (2147483647 : Int32))) (4616189618054758400 : UInt64))), .second, .val (.double (FP.i2d av)), .second, .val (.double (FP.ddiv (FP.i2d ((tr &&& (2097151 : Int32)) + (1 : Int32))) (4620693217682128896 : UInt64))), .second, .unset, .unset, .unset, .unset, .unset, .unset] [])) _
      refine XS.aload X25.here hx rfl (hb hby at_53) rfl rfl ?_
      show Steps p.tables e below (T24.setTop (mkF m 55 #[.val (.int sr), .val (.int av), .val (.int tr), .val (.int kv), .val (.ref aE), .val (.int (sr &&& (2147483647 : Int32))), .val (.int ((tr &&& (2097151 : Int32)) + (1 : Int32))), .val (.double (FP.ddiv (FP.i2d (sr &&& (2147483647 : Int32))) (4616189618054758400 : UInt64))), .second, .val (.double (FP.i2d av)), .second, .val (.double (FP.ddiv (FP.i2d ((tr &&& (2097151 : Int32)) + (1 : Int32))) (4620693217682128896 : UInt64))), .second, .unset, .unset, .unset, .unset, .unset, .unset] [(.ref aE)])) _
      refine XS.dload X25.here hx rfl (hb hby at_55) rfl ?_
      show Steps p.tables e below (T24.setTop (mkF m 57 #[.val (.int sr), .val (.int av), .val (.int tr), .val (.int kv), .val (.ref aE), .val (.int (sr &&& (2147483647 : Int32))), .val (.int ((tr &&& (2097151 : Int32)) + (1 : Int32))), .val (.double (FP.ddiv (FP.i2d (sr &&& (2147483647 : Int32))) (4616189618054758400 : UInt64))), .second, .val (.double (FP.i2d av)), .second, .val (.double (FP.ddiv (FP.i2d ((tr &&& (2097151 : Int32)) + (1 : Int32))) (4620693217682128896 : UInt64))), .second, .unset, .unset, .unset, .unset, .unset, .unset] [(.double (FP.ddiv (FP.i2d (sr &&& (2147483647 : Int32))) (4616189618054758400 : UInt64))), (.ref aE)])) _
      refine XS.dload X25.here hx rfl (hb hby at_57) rfl ?_
      show Steps p.tables e below (T24.setTop (mkF m 59 #[.val (.int sr), .val (.int av), .val (.int tr), .val (.int kv), .val (.ref aE), .val (.int (sr &&& (2147483647 : Int32))), .val (.int ((tr &&& (2097151 : Int32)) + (1 : Int32))), .val (.double (FP.ddiv (FP.i2d (sr &&& (2147483647 : Int32))) (4616189618054758400 : UInt64))), .second, .val (.double (FP.i2d av)), .second, .val (.double (FP.ddiv (FP.i2d ((tr &&& (2097151 : Int32)) + (1 : Int32))) (4620693217682128896 : UInt64))), .second, .unset, .unset, .unset, .unset, .unset, .unset] [(.double (FP.i2d av)), (.double (FP.ddiv (FP.i2d (sr &&& (2147483647 : Int32))) (4616189618054758400 : UInt64))), (.ref aE)])) _
      refine XS.dload X25.here hx rfl (hb hby at_59) rfl ?_
      show Steps p.tables e below (T24.setTop (mkF m 61 #[.val (.int sr), .val (.int av), .val (.int tr), .val (.int kv), .val (.ref aE), .val (.int (sr &&& (2147483647 : Int32))), .val (.int ((tr &&& (2097151 : Int32)) + (1 : Int32))), .val (.double (FP.ddiv (FP.i2d (sr &&& (2147483647 : Int32))) (4616189618054758400 : UInt64))), .second, .val (.double (FP.i2d av)), .second, .val (.double (FP.ddiv (FP.i2d ((tr &&& (2097151 : Int32)) + (1 : Int32))) (4620693217682128896 : UInt64))), .second, .unset, .unset, .unset, .unset, .unset, .unset] [(.double (FP.ddiv (FP.i2d ((tr &&& (2097151 : Int32)) + (1 : Int32))) (4620693217682128896 : UInt64))), (.double (FP.i2d av)), (.double (FP.ddiv (FP.i2d (sr &&& (2147483647 : Int32))) (4616189618054758400 : UInt64))), (.ref aE)])) _
      exact hh)
    obtain ⟨cq39, kq40, qa41, qb42, qc43⟩ := isOf hZ e26 xE
    obtain ⟨_, _, ⟨T28, L29, k_30, n_31⟩, -, X32, ⟨Lc33, hQ34, l_35, y_36, z_37⟩, st38⟩ := X25.virtualBack hx (y := (⟨"com/example/ample_gap/amplegap/simulation/Update", "endSpeed", "(DDD)D"⟩ : MethodName)) (z := (⟨"com/example/ample_gap/amplegap/simulation/Update", "endSpeed", "(DDD)D"⟩ : MethodName)) hown (mvT hZ (wT hw 7 rfl)) (mvT hZ (wT hw 8 rfl)) (notFace_of_selects (args := #[]) (mvT hZ (wT hw 10 rfl))) (mvT hZ (wT hw 10 rfl)) (mvT hZ (wT hw 9 rfl)) (by decide) (backOf (W := 0) (rmB l Z a0 hw [] aE (FP.ddiv (FP.i2d (sr &&& (2147483647 : Int32))) (4616189618054758400 : UInt64)) (FP.i2d av) (FP.ddiv (FP.i2d ((tr &&& (2097151 : Int32)) + (1 : Int32))) (4620693217682128896 : UInt64)) h0 n0 Z0 (own_mul_dy av tr).no (own_add_dy sr av tr).no) hZ (wT hw 11 rfl) (wT hw 1 rfl) (by decide) (by decide)) qa41 qc43 (g := (mkF m 61 #[.val (.int sr), .val (.int av), .val (.int tr), .val (.int kv), .val (.ref aE), .val (.int (sr &&& (2147483647 : Int32))), .val (.int ((tr &&& (2097151 : Int32)) + (1 : Int32))), .val (.double (FP.ddiv (FP.i2d (sr &&& (2147483647 : Int32))) (4616189618054758400 : UInt64))), .second, .val (.double (FP.i2d av)), .second, .val (.double (FP.ddiv (FP.i2d ((tr &&& (2097151 : Int32)) + (1 : Int32))) (4620693217682128896 : UInt64))), .second, .unset, .unset, .unset, .unset, .unset, .unset] [(.double (FP.ddiv (FP.i2d ((tr &&& (2097151 : Int32)) + (1 : Int32))) (4620693217682128896 : UInt64))), (.double (FP.i2d av)), (.double (FP.ddiv (FP.i2d (sr &&& (2147483647 : Int32))) (4616189618054758400 : UInt64))), (.ref aE)])) rfl (by rw [hml]; rfl) (Steps.refl _) (argsL := [(.double (FP.ddiv (FP.i2d (sr &&& (2147483647 : Int32))) (4616189618054758400 : UInt64))), (.double (FP.i2d av)), (.double (FP.ddiv (FP.i2d ((tr &&& (2097151 : Int32)) + (1 : Int32))) (4620693217682128896 : UInt64)))]) (rest := []) (lenOf own_h16 rfl) rfl (by show 2 * 0 + _ ≤ _; exact Nat.le_of_eq rfl) (hb hby at_61) (fun _ _ => ⟨rfl, e26, (by decide : 0 + 0 ≤ _), (by decide : 0 + 0 ≤ _)⟩)
    dsimp only [Pt.U, Pt.locs, Pt.cells, Pt.slots] at X32 l_35 y_36 z_37 st38 hQ34
    subst l_35 y_36 z_37
    obtain ⟨rfl, N44, e45⟩ := hQ34
    have N46 := Fr.app N0 N44
    have k12 : own_K p e below (T28.setTop (mkF m 64 #[.val (.int sr), .val (.int av), .val (.int tr), .val (.int kv), .val (.ref aE), .val (.int (sr &&& (2147483647 : Int32))), .val (.int ((tr &&& (2097151 : Int32)) + (1 : Int32))), .val (.double (FP.ddiv (FP.i2d (sr &&& (2147483647 : Int32))) (4616189618054758400 : UInt64))), .second, .val (.double (FP.i2d av)), .second, .val (.double (FP.ddiv (FP.i2d ((tr &&& (2097151 : Int32)) + (1 : Int32))) (4620693217682128896 : UInt64))), .second, .unset, .unset, .unset, .unset, .unset, .unset] [(.double (own_es (FP.ddiv (FP.i2d (sr &&& (2147483647 : Int32))) (4616189618054758400 : UInt64)) (FP.i2d av) (FP.ddiv (FP.i2d ((tr &&& (2097151 : Int32)) + (1 : Int32))) (4620693217682128896 : UInt64))))])) (s₁.setTop (entryFrame m #[(.int sr), (.int av), (.int tr), (.int kv)] maxLocals)) := fun t hh => k11 t (st38.trans hh)
    have k13 : own_K p e below (T28.setTop (mkF m 86 #[.val (.int sr), .val (.int av), .val (.int tr), .val (.int kv), .val (.ref aE), .val (.int (sr &&& (2147483647 : Int32))), .val (.int ((tr &&& (2097151 : Int32)) + (1 : Int32))), .val (.double (FP.ddiv (FP.i2d (sr &&& (2147483647 : Int32))) (4616189618054758400 : UInt64))), .second, .val (.double (FP.i2d av)), .second, .val (.double (FP.ddiv (FP.i2d ((tr &&& (2097151 : Int32)) + (1 : Int32))) (4620693217682128896 : UInt64))), .second, .val (.double (own_es (FP.ddiv (FP.i2d (sr &&& (2147483647 : Int32))) (4616189618054758400 : UInt64)) (FP.i2d av) (FP.ddiv (FP.i2d ((tr &&& (2097151 : Int32)) + (1 : Int32))) (4620693217682128896 : UInt64)))), .second, .val (.long (((2 : Int64) * ((sr &&& (2147483647 : Int32)).toInt64)) + ((av.toInt64) * (((tr &&& (2097151 : Int32)) + (1 : Int32)).toInt64)))), .second, .unset, .unset] [(.int (lcmpW (((2 : Int64) * ((sr &&& (2147483647 : Int32)).toInt64)) + ((av.toInt64) * (((tr &&& (2097151 : Int32)) + (1 : Int32)).toInt64))) (0 : Int64)))])) (s₁.setTop (entryFrame m #[(.int sr), (.int av), (.int tr), (.int kv)] maxLocals)) := fun t hh => k12 t (by
      refine XS.dstore X32.here hx rfl (hb hby at_64) rfl (l' := #[.val (.int sr), .val (.int av), .val (.int tr), .val (.int kv), .val (.ref aE), .val (.int (sr &&& (2147483647 : Int32))), .val (.int ((tr &&& (2097151 : Int32)) + (1 : Int32))), .val (.double (FP.ddiv (FP.i2d (sr &&& (2147483647 : Int32))) (4616189618054758400 : UInt64))), .second, .val (.double (FP.i2d av)), .second, .val (.double (FP.ddiv (FP.i2d ((tr &&& (2097151 : Int32)) + (1 : Int32))) (4620693217682128896 : UInt64))), .second, .val (.double (own_es (FP.ddiv (FP.i2d (sr &&& (2147483647 : Int32))) (4616189618054758400 : UInt64)) (FP.i2d av) (FP.ddiv (FP.i2d ((tr &&& (2097151 : Int32)) + (1 : Int32))) (4620693217682128896 : UInt64)))), .second, .unset, .unset, .unset, .unset]) rfl ?_
      show Steps p.tables e below (T28.setTop (mkF m 66 #[.val (.int sr), .val (.int av), .val (.int tr), .val (.int kv), .val (.ref aE), .val (.int (sr &&& (2147483647 : Int32))), .val (.int ((tr &&& (2097151 : Int32)) + (1 : Int32))), .val (.double (FP.ddiv (FP.i2d (sr &&& (2147483647 : Int32))) (4616189618054758400 : UInt64))), .second, .val (.double (FP.i2d av)), .second, .val (.double (FP.ddiv (FP.i2d ((tr &&& (2097151 : Int32)) + (1 : Int32))) (4620693217682128896 : UInt64))), .second, .val (.double (own_es (FP.ddiv (FP.i2d (sr &&& (2147483647 : Int32))) (4616189618054758400 : UInt64)) (FP.i2d av) (FP.ddiv (FP.i2d ((tr &&& (2097151 : Int32)) + (1 : Int32))) (4620693217682128896 : UInt64)))), .second, .unset, .unset, .unset, .unset] [])) _
      refine X32.ldc2Long hx hown (mvT hZ (wT hw 12 rfl)) (g := (mkF m 66 #[.val (.int sr), .val (.int av), .val (.int tr), .val (.int kv), .val (.ref aE), .val (.int (sr &&& (2147483647 : Int32))), .val (.int ((tr &&& (2097151 : Int32)) + (1 : Int32))), .val (.double (FP.ddiv (FP.i2d (sr &&& (2147483647 : Int32))) (4616189618054758400 : UInt64))), .second, .val (.double (FP.i2d av)), .second, .val (.double (FP.ddiv (FP.i2d ((tr &&& (2097151 : Int32)) + (1 : Int32))) (4620693217682128896 : UInt64))), .second, .val (.double (own_es (FP.ddiv (FP.i2d (sr &&& (2147483647 : Int32))) (4616189618054758400 : UInt64)) (FP.i2d av) (FP.ddiv (FP.i2d ((tr &&& (2097151 : Int32)) + (1 : Int32))) (4620693217682128896 : UInt64)))), .second, .unset, .unset, .unset, .unset] [])) rfl (hb hby at_66) _ ?_
      show Steps p.tables e below (T28.setTop (mkF m 69 #[.val (.int sr), .val (.int av), .val (.int tr), .val (.int kv), .val (.ref aE), .val (.int (sr &&& (2147483647 : Int32))), .val (.int ((tr &&& (2097151 : Int32)) + (1 : Int32))), .val (.double (FP.ddiv (FP.i2d (sr &&& (2147483647 : Int32))) (4616189618054758400 : UInt64))), .second, .val (.double (FP.i2d av)), .second, .val (.double (FP.ddiv (FP.i2d ((tr &&& (2097151 : Int32)) + (1 : Int32))) (4620693217682128896 : UInt64))), .second, .val (.double (own_es (FP.ddiv (FP.i2d (sr &&& (2147483647 : Int32))) (4616189618054758400 : UInt64)) (FP.i2d av) (FP.ddiv (FP.i2d ((tr &&& (2097151 : Int32)) + (1 : Int32))) (4620693217682128896 : UInt64)))), .second, .unset, .unset, .unset, .unset] [(.long (2 : Int64))])) _
      refine XS.iload X32.here hx rfl (hb hby at_69) rfl ?_
      show Steps p.tables e below (T28.setTop (mkF m 71 #[.val (.int sr), .val (.int av), .val (.int tr), .val (.int kv), .val (.ref aE), .val (.int (sr &&& (2147483647 : Int32))), .val (.int ((tr &&& (2097151 : Int32)) + (1 : Int32))), .val (.double (FP.ddiv (FP.i2d (sr &&& (2147483647 : Int32))) (4616189618054758400 : UInt64))), .second, .val (.double (FP.i2d av)), .second, .val (.double (FP.ddiv (FP.i2d ((tr &&& (2097151 : Int32)) + (1 : Int32))) (4620693217682128896 : UInt64))), .second, .val (.double (own_es (FP.ddiv (FP.i2d (sr &&& (2147483647 : Int32))) (4616189618054758400 : UInt64)) (FP.i2d av) (FP.ddiv (FP.i2d ((tr &&& (2097151 : Int32)) + (1 : Int32))) (4620693217682128896 : UInt64)))), .second, .unset, .unset, .unset, .unset] [(.int (sr &&& (2147483647 : Int32))), (.long (2 : Int64))])) _
      refine XS.i2l X32.here hx rfl (hb hby at_71) rfl ?_
      show Steps p.tables e below (T28.setTop (mkF m 72 #[.val (.int sr), .val (.int av), .val (.int tr), .val (.int kv), .val (.ref aE), .val (.int (sr &&& (2147483647 : Int32))), .val (.int ((tr &&& (2097151 : Int32)) + (1 : Int32))), .val (.double (FP.ddiv (FP.i2d (sr &&& (2147483647 : Int32))) (4616189618054758400 : UInt64))), .second, .val (.double (FP.i2d av)), .second, .val (.double (FP.ddiv (FP.i2d ((tr &&& (2097151 : Int32)) + (1 : Int32))) (4620693217682128896 : UInt64))), .second, .val (.double (own_es (FP.ddiv (FP.i2d (sr &&& (2147483647 : Int32))) (4616189618054758400 : UInt64)) (FP.i2d av) (FP.ddiv (FP.i2d ((tr &&& (2097151 : Int32)) + (1 : Int32))) (4620693217682128896 : UInt64)))), .second, .unset, .unset, .unset, .unset] [(.long ((sr &&& (2147483647 : Int32)).toInt64)), (.long (2 : Int64))])) _
      refine XS.lmul X32.here hx rfl (hb hby at_72) rfl ?_
      show Steps p.tables e below (T28.setTop (mkF m 73 #[.val (.int sr), .val (.int av), .val (.int tr), .val (.int kv), .val (.ref aE), .val (.int (sr &&& (2147483647 : Int32))), .val (.int ((tr &&& (2097151 : Int32)) + (1 : Int32))), .val (.double (FP.ddiv (FP.i2d (sr &&& (2147483647 : Int32))) (4616189618054758400 : UInt64))), .second, .val (.double (FP.i2d av)), .second, .val (.double (FP.ddiv (FP.i2d ((tr &&& (2097151 : Int32)) + (1 : Int32))) (4620693217682128896 : UInt64))), .second, .val (.double (own_es (FP.ddiv (FP.i2d (sr &&& (2147483647 : Int32))) (4616189618054758400 : UInt64)) (FP.i2d av) (FP.ddiv (FP.i2d ((tr &&& (2097151 : Int32)) + (1 : Int32))) (4620693217682128896 : UInt64)))), .second, .unset, .unset, .unset, .unset] [(.long ((2 : Int64) * ((sr &&& (2147483647 : Int32)).toInt64)))])) _
      refine XS.iloadN X32.here hx rfl (hb hby at_73) rfl ?_
      show Steps p.tables e below (T28.setTop (mkF m 74 #[.val (.int sr), .val (.int av), .val (.int tr), .val (.int kv), .val (.ref aE), .val (.int (sr &&& (2147483647 : Int32))), .val (.int ((tr &&& (2097151 : Int32)) + (1 : Int32))), .val (.double (FP.ddiv (FP.i2d (sr &&& (2147483647 : Int32))) (4616189618054758400 : UInt64))), .second, .val (.double (FP.i2d av)), .second, .val (.double (FP.ddiv (FP.i2d ((tr &&& (2097151 : Int32)) + (1 : Int32))) (4620693217682128896 : UInt64))), .second, .val (.double (own_es (FP.ddiv (FP.i2d (sr &&& (2147483647 : Int32))) (4616189618054758400 : UInt64)) (FP.i2d av) (FP.ddiv (FP.i2d ((tr &&& (2097151 : Int32)) + (1 : Int32))) (4620693217682128896 : UInt64)))), .second, .unset, .unset, .unset, .unset] [(.int av), (.long ((2 : Int64) * ((sr &&& (2147483647 : Int32)).toInt64)))])) _
      refine XS.i2l X32.here hx rfl (hb hby at_74) rfl ?_
      show Steps p.tables e below (T28.setTop (mkF m 75 #[.val (.int sr), .val (.int av), .val (.int tr), .val (.int kv), .val (.ref aE), .val (.int (sr &&& (2147483647 : Int32))), .val (.int ((tr &&& (2097151 : Int32)) + (1 : Int32))), .val (.double (FP.ddiv (FP.i2d (sr &&& (2147483647 : Int32))) (4616189618054758400 : UInt64))), .second, .val (.double (FP.i2d av)), .second, .val (.double (FP.ddiv (FP.i2d ((tr &&& (2097151 : Int32)) + (1 : Int32))) (4620693217682128896 : UInt64))), .second, .val (.double (own_es (FP.ddiv (FP.i2d (sr &&& (2147483647 : Int32))) (4616189618054758400 : UInt64)) (FP.i2d av) (FP.ddiv (FP.i2d ((tr &&& (2097151 : Int32)) + (1 : Int32))) (4620693217682128896 : UInt64)))), .second, .unset, .unset, .unset, .unset] [(.long (av.toInt64)), (.long ((2 : Int64) * ((sr &&& (2147483647 : Int32)).toInt64)))])) _
      refine XS.iload X32.here hx rfl (hb hby at_75) rfl ?_
      show Steps p.tables e below (T28.setTop (mkF m 77 #[.val (.int sr), .val (.int av), .val (.int tr), .val (.int kv), .val (.ref aE), .val (.int (sr &&& (2147483647 : Int32))), .val (.int ((tr &&& (2097151 : Int32)) + (1 : Int32))), .val (.double (FP.ddiv (FP.i2d (sr &&& (2147483647 : Int32))) (4616189618054758400 : UInt64))), .second, .val (.double (FP.i2d av)), .second, .val (.double (FP.ddiv (FP.i2d ((tr &&& (2097151 : Int32)) + (1 : Int32))) (4620693217682128896 : UInt64))), .second, .val (.double (own_es (FP.ddiv (FP.i2d (sr &&& (2147483647 : Int32))) (4616189618054758400 : UInt64)) (FP.i2d av) (FP.ddiv (FP.i2d ((tr &&& (2097151 : Int32)) + (1 : Int32))) (4620693217682128896 : UInt64)))), .second, .unset, .unset, .unset, .unset] [(.int ((tr &&& (2097151 : Int32)) + (1 : Int32))), (.long (av.toInt64)), (.long ((2 : Int64) * ((sr &&& (2147483647 : Int32)).toInt64)))])) _
      refine XS.i2l X32.here hx rfl (hb hby at_77) rfl ?_
      show Steps p.tables e below (T28.setTop (mkF m 78 #[.val (.int sr), .val (.int av), .val (.int tr), .val (.int kv), .val (.ref aE), .val (.int (sr &&& (2147483647 : Int32))), .val (.int ((tr &&& (2097151 : Int32)) + (1 : Int32))), .val (.double (FP.ddiv (FP.i2d (sr &&& (2147483647 : Int32))) (4616189618054758400 : UInt64))), .second, .val (.double (FP.i2d av)), .second, .val (.double (FP.ddiv (FP.i2d ((tr &&& (2097151 : Int32)) + (1 : Int32))) (4620693217682128896 : UInt64))), .second, .val (.double (own_es (FP.ddiv (FP.i2d (sr &&& (2147483647 : Int32))) (4616189618054758400 : UInt64)) (FP.i2d av) (FP.ddiv (FP.i2d ((tr &&& (2097151 : Int32)) + (1 : Int32))) (4620693217682128896 : UInt64)))), .second, .unset, .unset, .unset, .unset] [(.long (((tr &&& (2097151 : Int32)) + (1 : Int32)).toInt64)), (.long (av.toInt64)), (.long ((2 : Int64) * ((sr &&& (2147483647 : Int32)).toInt64)))])) _
      refine XS.lmul X32.here hx rfl (hb hby at_78) rfl ?_
      show Steps p.tables e below (T28.setTop (mkF m 79 #[.val (.int sr), .val (.int av), .val (.int tr), .val (.int kv), .val (.ref aE), .val (.int (sr &&& (2147483647 : Int32))), .val (.int ((tr &&& (2097151 : Int32)) + (1 : Int32))), .val (.double (FP.ddiv (FP.i2d (sr &&& (2147483647 : Int32))) (4616189618054758400 : UInt64))), .second, .val (.double (FP.i2d av)), .second, .val (.double (FP.ddiv (FP.i2d ((tr &&& (2097151 : Int32)) + (1 : Int32))) (4620693217682128896 : UInt64))), .second, .val (.double (own_es (FP.ddiv (FP.i2d (sr &&& (2147483647 : Int32))) (4616189618054758400 : UInt64)) (FP.i2d av) (FP.ddiv (FP.i2d ((tr &&& (2097151 : Int32)) + (1 : Int32))) (4620693217682128896 : UInt64)))), .second, .unset, .unset, .unset, .unset] [(.long ((av.toInt64) * (((tr &&& (2097151 : Int32)) + (1 : Int32)).toInt64))), (.long ((2 : Int64) * ((sr &&& (2147483647 : Int32)).toInt64)))])) _
      refine XS.ladd X32.here hx rfl (hb hby at_79) rfl ?_
      show Steps p.tables e below (T28.setTop (mkF m 80 #[.val (.int sr), .val (.int av), .val (.int tr), .val (.int kv), .val (.ref aE), .val (.int (sr &&& (2147483647 : Int32))), .val (.int ((tr &&& (2097151 : Int32)) + (1 : Int32))), .val (.double (FP.ddiv (FP.i2d (sr &&& (2147483647 : Int32))) (4616189618054758400 : UInt64))), .second, .val (.double (FP.i2d av)), .second, .val (.double (FP.ddiv (FP.i2d ((tr &&& (2097151 : Int32)) + (1 : Int32))) (4620693217682128896 : UInt64))), .second, .val (.double (own_es (FP.ddiv (FP.i2d (sr &&& (2147483647 : Int32))) (4616189618054758400 : UInt64)) (FP.i2d av) (FP.ddiv (FP.i2d ((tr &&& (2097151 : Int32)) + (1 : Int32))) (4620693217682128896 : UInt64)))), .second, .unset, .unset, .unset, .unset] [(.long (((2 : Int64) * ((sr &&& (2147483647 : Int32)).toInt64)) + ((av.toInt64) * (((tr &&& (2097151 : Int32)) + (1 : Int32)).toInt64))))])) _
      refine XS.lstore X32.here hx rfl (hb hby at_80) rfl (l' := #[.val (.int sr), .val (.int av), .val (.int tr), .val (.int kv), .val (.ref aE), .val (.int (sr &&& (2147483647 : Int32))), .val (.int ((tr &&& (2097151 : Int32)) + (1 : Int32))), .val (.double (FP.ddiv (FP.i2d (sr &&& (2147483647 : Int32))) (4616189618054758400 : UInt64))), .second, .val (.double (FP.i2d av)), .second, .val (.double (FP.ddiv (FP.i2d ((tr &&& (2097151 : Int32)) + (1 : Int32))) (4620693217682128896 : UInt64))), .second, .val (.double (own_es (FP.ddiv (FP.i2d (sr &&& (2147483647 : Int32))) (4616189618054758400 : UInt64)) (FP.i2d av) (FP.ddiv (FP.i2d ((tr &&& (2097151 : Int32)) + (1 : Int32))) (4620693217682128896 : UInt64)))), .second, .val (.long (((2 : Int64) * ((sr &&& (2147483647 : Int32)).toInt64)) + ((av.toInt64) * (((tr &&& (2097151 : Int32)) + (1 : Int32)).toInt64)))), .second, .unset, .unset]) rfl ?_
      show Steps p.tables e below (T28.setTop (mkF m 82 #[.val (.int sr), .val (.int av), .val (.int tr), .val (.int kv), .val (.ref aE), .val (.int (sr &&& (2147483647 : Int32))), .val (.int ((tr &&& (2097151 : Int32)) + (1 : Int32))), .val (.double (FP.ddiv (FP.i2d (sr &&& (2147483647 : Int32))) (4616189618054758400 : UInt64))), .second, .val (.double (FP.i2d av)), .second, .val (.double (FP.ddiv (FP.i2d ((tr &&& (2097151 : Int32)) + (1 : Int32))) (4620693217682128896 : UInt64))), .second, .val (.double (own_es (FP.ddiv (FP.i2d (sr &&& (2147483647 : Int32))) (4616189618054758400 : UInt64)) (FP.i2d av) (FP.ddiv (FP.i2d ((tr &&& (2097151 : Int32)) + (1 : Int32))) (4620693217682128896 : UInt64)))), .second, .val (.long (((2 : Int64) * ((sr &&& (2147483647 : Int32)).toInt64)) + ((av.toInt64) * (((tr &&& (2097151 : Int32)) + (1 : Int32)).toInt64)))), .second, .unset, .unset] [])) _
      refine XS.lload X32.here hx rfl (hb hby at_82) rfl ?_
      show Steps p.tables e below (T28.setTop (mkF m 84 #[.val (.int sr), .val (.int av), .val (.int tr), .val (.int kv), .val (.ref aE), .val (.int (sr &&& (2147483647 : Int32))), .val (.int ((tr &&& (2097151 : Int32)) + (1 : Int32))), .val (.double (FP.ddiv (FP.i2d (sr &&& (2147483647 : Int32))) (4616189618054758400 : UInt64))), .second, .val (.double (FP.i2d av)), .second, .val (.double (FP.ddiv (FP.i2d ((tr &&& (2097151 : Int32)) + (1 : Int32))) (4620693217682128896 : UInt64))), .second, .val (.double (own_es (FP.ddiv (FP.i2d (sr &&& (2147483647 : Int32))) (4616189618054758400 : UInt64)) (FP.i2d av) (FP.ddiv (FP.i2d ((tr &&& (2097151 : Int32)) + (1 : Int32))) (4620693217682128896 : UInt64)))), .second, .val (.long (((2 : Int64) * ((sr &&& (2147483647 : Int32)).toInt64)) + ((av.toInt64) * (((tr &&& (2097151 : Int32)) + (1 : Int32)).toInt64)))), .second, .unset, .unset] [(.long (((2 : Int64) * ((sr &&& (2147483647 : Int32)).toInt64)) + ((av.toInt64) * (((tr &&& (2097151 : Int32)) + (1 : Int32)).toInt64))))])) _
      refine XS.lconst X32.here hx rfl (hb hby at_84) ?_
      show Steps p.tables e below (T28.setTop (mkF m 85 #[.val (.int sr), .val (.int av), .val (.int tr), .val (.int kv), .val (.ref aE), .val (.int (sr &&& (2147483647 : Int32))), .val (.int ((tr &&& (2097151 : Int32)) + (1 : Int32))), .val (.double (FP.ddiv (FP.i2d (sr &&& (2147483647 : Int32))) (4616189618054758400 : UInt64))), .second, .val (.double (FP.i2d av)), .second, .val (.double (FP.ddiv (FP.i2d ((tr &&& (2097151 : Int32)) + (1 : Int32))) (4620693217682128896 : UInt64))), .second, .val (.double (own_es (FP.ddiv (FP.i2d (sr &&& (2147483647 : Int32))) (4616189618054758400 : UInt64)) (FP.i2d av) (FP.ddiv (FP.i2d ((tr &&& (2097151 : Int32)) + (1 : Int32))) (4620693217682128896 : UInt64)))), .second, .val (.long (((2 : Int64) * ((sr &&& (2147483647 : Int32)).toInt64)) + ((av.toInt64) * (((tr &&& (2097151 : Int32)) + (1 : Int32)).toInt64)))), .second, .unset, .unset] [(.long (0 : Int64)), (.long (((2 : Int64) * ((sr &&& (2147483647 : Int32)).toInt64)) + ((av.toInt64) * (((tr &&& (2097151 : Int32)) + (1 : Int32)).toInt64))))])) _
      refine XS.lcmp X32.here hx rfl (hb hby at_85) rfl ?_
      show Steps p.tables e below (T28.setTop (mkF m 86 #[.val (.int sr), .val (.int av), .val (.int tr), .val (.int kv), .val (.ref aE), .val (.int (sr &&& (2147483647 : Int32))), .val (.int ((tr &&& (2097151 : Int32)) + (1 : Int32))), .val (.double (FP.ddiv (FP.i2d (sr &&& (2147483647 : Int32))) (4616189618054758400 : UInt64))), .second, .val (.double (FP.i2d av)), .second, .val (.double (FP.ddiv (FP.i2d ((tr &&& (2097151 : Int32)) + (1 : Int32))) (4620693217682128896 : UInt64))), .second, .val (.double (own_es (FP.ddiv (FP.i2d (sr &&& (2147483647 : Int32))) (4616189618054758400 : UInt64)) (FP.i2d av) (FP.ddiv (FP.i2d ((tr &&& (2097151 : Int32)) + (1 : Int32))) (4620693217682128896 : UInt64)))), .second, .val (.long (((2 : Int64) * ((sr &&& (2147483647 : Int32)).toInt64)) + ((av.toInt64) * (((tr &&& (2097151 : Int32)) + (1 : Int32)).toInt64)))), .second, .unset, .unset] [(.int (lcmpW (((2 : Int64) * ((sr &&& (2147483647 : Int32)).toInt64)) + ((av.toInt64) * (((tr &&& (2097151 : Int32)) + (1 : Int32)).toInt64))) (0 : Int64)))])) _
      exact hh)
    by_cases c86 : (lcmpW (((2 : Int64) * ((sr &&& (2147483647 : Int32)).toInt64)) + ((av.toInt64) * (((tr &&& (2097151 : Int32)) + (1 : Int32)).toInt64))) (0 : Int64)) < 0
    ·
      have k14 : own_K p e below (T28.setTop (mkF m 115 #[.val (.int sr), .val (.int av), .val (.int tr), .val (.int kv), .val (.ref aE), .val (.int (sr &&& (2147483647 : Int32))), .val (.int ((tr &&& (2097151 : Int32)) + (1 : Int32))), .val (.double (FP.ddiv (FP.i2d (sr &&& (2147483647 : Int32))) (4616189618054758400 : UInt64))), .second, .val (.double (FP.i2d av)), .second, .val (.double (FP.ddiv (FP.i2d ((tr &&& (2097151 : Int32)) + (1 : Int32))) (4620693217682128896 : UInt64))), .second, .val (.double (own_es (FP.ddiv (FP.i2d (sr &&& (2147483647 : Int32))) (4616189618054758400 : UInt64)) (FP.i2d av) (FP.ddiv (FP.i2d ((tr &&& (2097151 : Int32)) + (1 : Int32))) (4620693217682128896 : UInt64)))), .second, .val (.long (((2 : Int64) * ((sr &&& (2147483647 : Int32)).toInt64)) + ((av.toInt64) * (((tr &&& (2097151 : Int32)) + (1 : Int32)).toInt64)))), .second, .val (.double FP.dconst0), .second] [(.int (1 : Int32))])) (s₁.setTop (entryFrame m #[(.int sr), (.int av), (.int tr), (.int kv)] maxLocals)) := fun t hh => k13 t (by
        refine XS.ifNo X32.here hx rfl (hb hby at_86) rfl (own_ifF_ge c86) ?_
        show Steps p.tables e below (T28.setTop (mkF m 89 #[.val (.int sr), .val (.int av), .val (.int tr), .val (.int kv), .val (.ref aE), .val (.int (sr &&& (2147483647 : Int32))), .val (.int ((tr &&& (2097151 : Int32)) + (1 : Int32))), .val (.double (FP.ddiv (FP.i2d (sr &&& (2147483647 : Int32))) (4616189618054758400 : UInt64))), .second, .val (.double (FP.i2d av)), .second, .val (.double (FP.ddiv (FP.i2d ((tr &&& (2097151 : Int32)) + (1 : Int32))) (4620693217682128896 : UInt64))), .second, .val (.double (own_es (FP.ddiv (FP.i2d (sr &&& (2147483647 : Int32))) (4616189618054758400 : UInt64)) (FP.i2d av) (FP.ddiv (FP.i2d ((tr &&& (2097151 : Int32)) + (1 : Int32))) (4620693217682128896 : UInt64)))), .second, .val (.long (((2 : Int64) * ((sr &&& (2147483647 : Int32)).toInt64)) + ((av.toInt64) * (((tr &&& (2097151 : Int32)) + (1 : Int32)).toInt64)))), .second, .unset, .unset] [])) _
        refine XS.dconst0 X32.here hx rfl (hb hby at_89) rfl ?_
        show Steps p.tables e below (T28.setTop (mkF m 90 #[.val (.int sr), .val (.int av), .val (.int tr), .val (.int kv), .val (.ref aE), .val (.int (sr &&& (2147483647 : Int32))), .val (.int ((tr &&& (2097151 : Int32)) + (1 : Int32))), .val (.double (FP.ddiv (FP.i2d (sr &&& (2147483647 : Int32))) (4616189618054758400 : UInt64))), .second, .val (.double (FP.i2d av)), .second, .val (.double (FP.ddiv (FP.i2d ((tr &&& (2097151 : Int32)) + (1 : Int32))) (4620693217682128896 : UInt64))), .second, .val (.double (own_es (FP.ddiv (FP.i2d (sr &&& (2147483647 : Int32))) (4616189618054758400 : UInt64)) (FP.i2d av) (FP.ddiv (FP.i2d ((tr &&& (2097151 : Int32)) + (1 : Int32))) (4620693217682128896 : UInt64)))), .second, .val (.long (((2 : Int64) * ((sr &&& (2147483647 : Int32)).toInt64)) + ((av.toInt64) * (((tr &&& (2097151 : Int32)) + (1 : Int32)).toInt64)))), .second, .unset, .unset] [(.double FP.dconst0)])) _
        refine XS.goto X32.here hx rfl (pc0 := 90) (pc' := 100) rfl (hb hby at_90) (by decide) (by decide) ?_
        show Steps p.tables e below (T28.setTop (mkF m 100 #[.val (.int sr), .val (.int av), .val (.int tr), .val (.int kv), .val (.ref aE), .val (.int (sr &&& (2147483647 : Int32))), .val (.int ((tr &&& (2097151 : Int32)) + (1 : Int32))), .val (.double (FP.ddiv (FP.i2d (sr &&& (2147483647 : Int32))) (4616189618054758400 : UInt64))), .second, .val (.double (FP.i2d av)), .second, .val (.double (FP.ddiv (FP.i2d ((tr &&& (2097151 : Int32)) + (1 : Int32))) (4620693217682128896 : UInt64))), .second, .val (.double (own_es (FP.ddiv (FP.i2d (sr &&& (2147483647 : Int32))) (4616189618054758400 : UInt64)) (FP.i2d av) (FP.ddiv (FP.i2d ((tr &&& (2097151 : Int32)) + (1 : Int32))) (4620693217682128896 : UInt64)))), .second, .val (.long (((2 : Int64) * ((sr &&& (2147483647 : Int32)).toInt64)) + ((av.toInt64) * (((tr &&& (2097151 : Int32)) + (1 : Int32)).toInt64)))), .second, .unset, .unset] [(.double FP.dconst0)])) _
        refine XS.dstore X32.here hx rfl (hb hby at_100) rfl (l' := #[.val (.int sr), .val (.int av), .val (.int tr), .val (.int kv), .val (.ref aE), .val (.int (sr &&& (2147483647 : Int32))), .val (.int ((tr &&& (2097151 : Int32)) + (1 : Int32))), .val (.double (FP.ddiv (FP.i2d (sr &&& (2147483647 : Int32))) (4616189618054758400 : UInt64))), .second, .val (.double (FP.i2d av)), .second, .val (.double (FP.ddiv (FP.i2d ((tr &&& (2097151 : Int32)) + (1 : Int32))) (4620693217682128896 : UInt64))), .second, .val (.double (own_es (FP.ddiv (FP.i2d (sr &&& (2147483647 : Int32))) (4616189618054758400 : UInt64)) (FP.i2d av) (FP.ddiv (FP.i2d ((tr &&& (2097151 : Int32)) + (1 : Int32))) (4620693217682128896 : UInt64)))), .second, .val (.long (((2 : Int64) * ((sr &&& (2147483647 : Int32)).toInt64)) + ((av.toInt64) * (((tr &&& (2097151 : Int32)) + (1 : Int32)).toInt64)))), .second, .val (.double FP.dconst0), .second]) rfl ?_
        show Steps p.tables e below (T28.setTop (mkF m 102 #[.val (.int sr), .val (.int av), .val (.int tr), .val (.int kv), .val (.ref aE), .val (.int (sr &&& (2147483647 : Int32))), .val (.int ((tr &&& (2097151 : Int32)) + (1 : Int32))), .val (.double (FP.ddiv (FP.i2d (sr &&& (2147483647 : Int32))) (4616189618054758400 : UInt64))), .second, .val (.double (FP.i2d av)), .second, .val (.double (FP.ddiv (FP.i2d ((tr &&& (2097151 : Int32)) + (1 : Int32))) (4620693217682128896 : UInt64))), .second, .val (.double (own_es (FP.ddiv (FP.i2d (sr &&& (2147483647 : Int32))) (4616189618054758400 : UInt64)) (FP.i2d av) (FP.ddiv (FP.i2d ((tr &&& (2097151 : Int32)) + (1 : Int32))) (4620693217682128896 : UInt64)))), .second, .val (.long (((2 : Int64) * ((sr &&& (2147483647 : Int32)).toInt64)) + ((av.toInt64) * (((tr &&& (2097151 : Int32)) + (1 : Int32)).toInt64)))), .second, .val (.double FP.dconst0), .second] [])) _
        refine XS.dload X32.here hx rfl (hb hby at_102) rfl ?_
        show Steps p.tables e below (T28.setTop (mkF m 104 #[.val (.int sr), .val (.int av), .val (.int tr), .val (.int kv), .val (.ref aE), .val (.int (sr &&& (2147483647 : Int32))), .val (.int ((tr &&& (2097151 : Int32)) + (1 : Int32))), .val (.double (FP.ddiv (FP.i2d (sr &&& (2147483647 : Int32))) (4616189618054758400 : UInt64))), .second, .val (.double (FP.i2d av)), .second, .val (.double (FP.ddiv (FP.i2d ((tr &&& (2097151 : Int32)) + (1 : Int32))) (4620693217682128896 : UInt64))), .second, .val (.double (own_es (FP.ddiv (FP.i2d (sr &&& (2147483647 : Int32))) (4616189618054758400 : UInt64)) (FP.i2d av) (FP.ddiv (FP.i2d ((tr &&& (2097151 : Int32)) + (1 : Int32))) (4620693217682128896 : UInt64)))), .second, .val (.long (((2 : Int64) * ((sr &&& (2147483647 : Int32)).toInt64)) + ((av.toInt64) * (((tr &&& (2097151 : Int32)) + (1 : Int32)).toInt64)))), .second, .val (.double FP.dconst0), .second] [(.double (own_es (FP.ddiv (FP.i2d (sr &&& (2147483647 : Int32))) (4616189618054758400 : UInt64)) (FP.i2d av) (FP.ddiv (FP.i2d ((tr &&& (2097151 : Int32)) + (1 : Int32))) (4620693217682128896 : UInt64))))])) _
        refine XS.dload X32.here hx rfl (hb hby at_104) rfl ?_
        show Steps p.tables e below (T28.setTop (mkF m 106 #[.val (.int sr), .val (.int av), .val (.int tr), .val (.int kv), .val (.ref aE), .val (.int (sr &&& (2147483647 : Int32))), .val (.int ((tr &&& (2097151 : Int32)) + (1 : Int32))), .val (.double (FP.ddiv (FP.i2d (sr &&& (2147483647 : Int32))) (4616189618054758400 : UInt64))), .second, .val (.double (FP.i2d av)), .second, .val (.double (FP.ddiv (FP.i2d ((tr &&& (2097151 : Int32)) + (1 : Int32))) (4620693217682128896 : UInt64))), .second, .val (.double (own_es (FP.ddiv (FP.i2d (sr &&& (2147483647 : Int32))) (4616189618054758400 : UInt64)) (FP.i2d av) (FP.ddiv (FP.i2d ((tr &&& (2097151 : Int32)) + (1 : Int32))) (4620693217682128896 : UInt64)))), .second, .val (.long (((2 : Int64) * ((sr &&& (2147483647 : Int32)).toInt64)) + ((av.toInt64) * (((tr &&& (2097151 : Int32)) + (1 : Int32)).toInt64)))), .second, .val (.double FP.dconst0), .second] [(.double FP.dconst0), (.double (own_es (FP.ddiv (FP.i2d (sr &&& (2147483647 : Int32))) (4616189618054758400 : UInt64)) (FP.i2d av) (FP.ddiv (FP.i2d ((tr &&& (2097151 : Int32)) + (1 : Int32))) (4620693217682128896 : UInt64))))])) _
        refine XS.dcmpS X32.here hx rfl (hb hby at_106) rfl (own_fin1 sr av tr c86) ?_
        show Steps p.tables e below (T28.setTop (mkF m 107 #[.val (.int sr), .val (.int av), .val (.int tr), .val (.int kv), .val (.ref aE), .val (.int (sr &&& (2147483647 : Int32))), .val (.int ((tr &&& (2097151 : Int32)) + (1 : Int32))), .val (.double (FP.ddiv (FP.i2d (sr &&& (2147483647 : Int32))) (4616189618054758400 : UInt64))), .second, .val (.double (FP.i2d av)), .second, .val (.double (FP.ddiv (FP.i2d ((tr &&& (2097151 : Int32)) + (1 : Int32))) (4620693217682128896 : UInt64))), .second, .val (.double (own_es (FP.ddiv (FP.i2d (sr &&& (2147483647 : Int32))) (4616189618054758400 : UInt64)) (FP.i2d av) (FP.ddiv (FP.i2d ((tr &&& (2097151 : Int32)) + (1 : Int32))) (4620693217682128896 : UInt64)))), .second, .val (.long (((2 : Int64) * ((sr &&& (2147483647 : Int32)).toInt64)) + ((av.toInt64) * (((tr &&& (2097151 : Int32)) + (1 : Int32)).toInt64)))), .second, .val (.double FP.dconst0), .second] [(.int (0 : Int32))])) _
        refine XS.ifNo X32.here hx rfl (hb hby at_107) rfl (by decide) ?_
        show Steps p.tables e below (T28.setTop (mkF m 110 #[.val (.int sr), .val (.int av), .val (.int tr), .val (.int kv), .val (.ref aE), .val (.int (sr &&& (2147483647 : Int32))), .val (.int ((tr &&& (2097151 : Int32)) + (1 : Int32))), .val (.double (FP.ddiv (FP.i2d (sr &&& (2147483647 : Int32))) (4616189618054758400 : UInt64))), .second, .val (.double (FP.i2d av)), .second, .val (.double (FP.ddiv (FP.i2d ((tr &&& (2097151 : Int32)) + (1 : Int32))) (4620693217682128896 : UInt64))), .second, .val (.double (own_es (FP.ddiv (FP.i2d (sr &&& (2147483647 : Int32))) (4616189618054758400 : UInt64)) (FP.i2d av) (FP.ddiv (FP.i2d ((tr &&& (2097151 : Int32)) + (1 : Int32))) (4620693217682128896 : UInt64)))), .second, .val (.long (((2 : Int64) * ((sr &&& (2147483647 : Int32)).toInt64)) + ((av.toInt64) * (((tr &&& (2097151 : Int32)) + (1 : Int32)).toInt64)))), .second, .val (.double FP.dconst0), .second] [])) _
        refine XS.iconst X32.here hx rfl (hb hby at_110) ?_
        show Steps p.tables e below (T28.setTop (mkF m 111 #[.val (.int sr), .val (.int av), .val (.int tr), .val (.int kv), .val (.ref aE), .val (.int (sr &&& (2147483647 : Int32))), .val (.int ((tr &&& (2097151 : Int32)) + (1 : Int32))), .val (.double (FP.ddiv (FP.i2d (sr &&& (2147483647 : Int32))) (4616189618054758400 : UInt64))), .second, .val (.double (FP.i2d av)), .second, .val (.double (FP.ddiv (FP.i2d ((tr &&& (2097151 : Int32)) + (1 : Int32))) (4620693217682128896 : UInt64))), .second, .val (.double (own_es (FP.ddiv (FP.i2d (sr &&& (2147483647 : Int32))) (4616189618054758400 : UInt64)) (FP.i2d av) (FP.ddiv (FP.i2d ((tr &&& (2097151 : Int32)) + (1 : Int32))) (4620693217682128896 : UInt64)))), .second, .val (.long (((2 : Int64) * ((sr &&& (2147483647 : Int32)).toInt64)) + ((av.toInt64) * (((tr &&& (2097151 : Int32)) + (1 : Int32)).toInt64)))), .second, .val (.double FP.dconst0), .second] [(.int (1 : Int32))])) _
        refine XS.goto X32.here hx rfl (pc0 := 111) (pc' := 115) rfl (hb hby at_111) (by decide) (by decide) ?_
        show Steps p.tables e below (T28.setTop (mkF m 115 #[.val (.int sr), .val (.int av), .val (.int tr), .val (.int kv), .val (.ref aE), .val (.int (sr &&& (2147483647 : Int32))), .val (.int ((tr &&& (2097151 : Int32)) + (1 : Int32))), .val (.double (FP.ddiv (FP.i2d (sr &&& (2147483647 : Int32))) (4616189618054758400 : UInt64))), .second, .val (.double (FP.i2d av)), .second, .val (.double (FP.ddiv (FP.i2d ((tr &&& (2097151 : Int32)) + (1 : Int32))) (4620693217682128896 : UInt64))), .second, .val (.double (own_es (FP.ddiv (FP.i2d (sr &&& (2147483647 : Int32))) (4616189618054758400 : UInt64)) (FP.i2d av) (FP.ddiv (FP.i2d ((tr &&& (2097151 : Int32)) + (1 : Int32))) (4620693217682128896 : UInt64)))), .second, .val (.long (((2 : Int64) * ((sr &&& (2147483647 : Int32)).toInt64)) + ((av.toInt64) * (((tr &&& (2097151 : Int32)) + (1 : Int32)).toInt64)))), .second, .val (.double FP.dconst0), .second] [(.int (1 : Int32))])) _
        exact hh)
      obtain ⟨fs, hr, hrun, hended, hW, hsame⟩ := X32.leave (v := some (.int (1 : Int32))) (fun h => by rw [Bd.returns] at h; cases h)
      refine ⟨_, _, k14 _ (retN X32 hx (t := .boolean) Bd.returns (by simp) (hb hby at_115) hr), hrun, hended, _, _, rfl, ?_, ⟨_, rfl⟩, hW, hsame.mono (by decide) (by decide)⟩
      show QL h0 n0 _ T28.heap _
      rw [e45]
      exact ⟨rfl, N46⟩
    ·
      have k15 : own_K p e below (T28.setTop (mkF m 115 #[.val (.int sr), .val (.int av), .val (.int tr), .val (.int kv), .val (.ref aE), .val (.int (sr &&& (2147483647 : Int32))), .val (.int ((tr &&& (2097151 : Int32)) + (1 : Int32))), .val (.double (FP.ddiv (FP.i2d (sr &&& (2147483647 : Int32))) (4616189618054758400 : UInt64))), .second, .val (.double (FP.i2d av)), .second, .val (.double (FP.ddiv (FP.i2d ((tr &&& (2097151 : Int32)) + (1 : Int32))) (4620693217682128896 : UInt64))), .second, .val (.double (own_es (FP.ddiv (FP.i2d (sr &&& (2147483647 : Int32))) (4616189618054758400 : UInt64)) (FP.i2d av) (FP.ddiv (FP.i2d ((tr &&& (2097151 : Int32)) + (1 : Int32))) (4620693217682128896 : UInt64)))), .second, .val (.long (((2 : Int64) * ((sr &&& (2147483647 : Int32)).toInt64)) + ((av.toInt64) * (((tr &&& (2097151 : Int32)) + (1 : Int32)).toInt64)))), .second, .val (.double (FP.ddiv (FP.l2d (((2 : Int64) * ((sr &&& (2147483647 : Int32)).toInt64)) + ((av.toInt64) * (((tr &&& (2097151 : Int32)) + (1 : Int32)).toInt64)))) (4620693217682128896 : UInt64))), .second] [(.int (1 : Int32))])) (s₁.setTop (entryFrame m #[(.int sr), (.int av), (.int tr), (.int kv)] maxLocals)) := fun t hh => k13 t (by
        refine XS.ifYes X32.here hx rfl (pc0 := 86) (pc' := 93) rfl (hb hby at_86) rfl (own_ifT_ge c86) (by decide) (by decide) ?_
        show Steps p.tables e below (T28.setTop (mkF m 93 #[.val (.int sr), .val (.int av), .val (.int tr), .val (.int kv), .val (.ref aE), .val (.int (sr &&& (2147483647 : Int32))), .val (.int ((tr &&& (2097151 : Int32)) + (1 : Int32))), .val (.double (FP.ddiv (FP.i2d (sr &&& (2147483647 : Int32))) (4616189618054758400 : UInt64))), .second, .val (.double (FP.i2d av)), .second, .val (.double (FP.ddiv (FP.i2d ((tr &&& (2097151 : Int32)) + (1 : Int32))) (4620693217682128896 : UInt64))), .second, .val (.double (own_es (FP.ddiv (FP.i2d (sr &&& (2147483647 : Int32))) (4616189618054758400 : UInt64)) (FP.i2d av) (FP.ddiv (FP.i2d ((tr &&& (2097151 : Int32)) + (1 : Int32))) (4620693217682128896 : UInt64)))), .second, .val (.long (((2 : Int64) * ((sr &&& (2147483647 : Int32)).toInt64)) + ((av.toInt64) * (((tr &&& (2097151 : Int32)) + (1 : Int32)).toInt64)))), .second, .unset, .unset] [])) _
        refine XS.lload X32.here hx rfl (hb hby at_93) rfl ?_
        show Steps p.tables e below (T28.setTop (mkF m 95 #[.val (.int sr), .val (.int av), .val (.int tr), .val (.int kv), .val (.ref aE), .val (.int (sr &&& (2147483647 : Int32))), .val (.int ((tr &&& (2097151 : Int32)) + (1 : Int32))), .val (.double (FP.ddiv (FP.i2d (sr &&& (2147483647 : Int32))) (4616189618054758400 : UInt64))), .second, .val (.double (FP.i2d av)), .second, .val (.double (FP.ddiv (FP.i2d ((tr &&& (2097151 : Int32)) + (1 : Int32))) (4620693217682128896 : UInt64))), .second, .val (.double (own_es (FP.ddiv (FP.i2d (sr &&& (2147483647 : Int32))) (4616189618054758400 : UInt64)) (FP.i2d av) (FP.ddiv (FP.i2d ((tr &&& (2097151 : Int32)) + (1 : Int32))) (4620693217682128896 : UInt64)))), .second, .val (.long (((2 : Int64) * ((sr &&& (2147483647 : Int32)).toInt64)) + ((av.toInt64) * (((tr &&& (2097151 : Int32)) + (1 : Int32)).toInt64)))), .second, .unset, .unset] [(.long (((2 : Int64) * ((sr &&& (2147483647 : Int32)).toInt64)) + ((av.toInt64) * (((tr &&& (2097151 : Int32)) + (1 : Int32)).toInt64))))])) _
        refine XS.l2dS X32.here hx rfl (hb hby at_95) rfl rfl ?_
        show Steps p.tables e below (T28.setTop (mkF m 96 #[.val (.int sr), .val (.int av), .val (.int tr), .val (.int kv), .val (.ref aE), .val (.int (sr &&& (2147483647 : Int32))), .val (.int ((tr &&& (2097151 : Int32)) + (1 : Int32))), .val (.double (FP.ddiv (FP.i2d (sr &&& (2147483647 : Int32))) (4616189618054758400 : UInt64))), .second, .val (.double (FP.i2d av)), .second, .val (.double (FP.ddiv (FP.i2d ((tr &&& (2097151 : Int32)) + (1 : Int32))) (4620693217682128896 : UInt64))), .second, .val (.double (own_es (FP.ddiv (FP.i2d (sr &&& (2147483647 : Int32))) (4616189618054758400 : UInt64)) (FP.i2d av) (FP.ddiv (FP.i2d ((tr &&& (2097151 : Int32)) + (1 : Int32))) (4620693217682128896 : UInt64)))), .second, .val (.long (((2 : Int64) * ((sr &&& (2147483647 : Int32)).toInt64)) + ((av.toInt64) * (((tr &&& (2097151 : Int32)) + (1 : Int32)).toInt64)))), .second, .unset, .unset] [(.double (FP.l2d (((2 : Int64) * ((sr &&& (2147483647 : Int32)).toInt64)) + ((av.toInt64) * (((tr &&& (2097151 : Int32)) + (1 : Int32)).toInt64)))))])) _
        refine X32.ldc2DoubleC hx hown (mvT hZ (wT hw 6 rfl)) (g := (mkF m 96 #[.val (.int sr), .val (.int av), .val (.int tr), .val (.int kv), .val (.ref aE), .val (.int (sr &&& (2147483647 : Int32))), .val (.int ((tr &&& (2097151 : Int32)) + (1 : Int32))), .val (.double (FP.ddiv (FP.i2d (sr &&& (2147483647 : Int32))) (4616189618054758400 : UInt64))), .second, .val (.double (FP.i2d av)), .second, .val (.double (FP.ddiv (FP.i2d ((tr &&& (2097151 : Int32)) + (1 : Int32))) (4620693217682128896 : UInt64))), .second, .val (.double (own_es (FP.ddiv (FP.i2d (sr &&& (2147483647 : Int32))) (4616189618054758400 : UInt64)) (FP.i2d av) (FP.ddiv (FP.i2d ((tr &&& (2097151 : Int32)) + (1 : Int32))) (4620693217682128896 : UInt64)))), .second, .val (.long (((2 : Int64) * ((sr &&& (2147483647 : Int32)).toInt64)) + ((av.toInt64) * (((tr &&& (2097151 : Int32)) + (1 : Int32)).toInt64)))), .second, .unset, .unset] [(.double (FP.l2d (((2 : Int64) * ((sr &&& (2147483647 : Int32)).toInt64)) + ((av.toInt64) * (((tr &&& (2097151 : Int32)) + (1 : Int32)).toInt64)))))])) rfl (hb hby at_96) _ ?_
        show Steps p.tables e below (T28.setTop (mkF m 99 #[.val (.int sr), .val (.int av), .val (.int tr), .val (.int kv), .val (.ref aE), .val (.int (sr &&& (2147483647 : Int32))), .val (.int ((tr &&& (2097151 : Int32)) + (1 : Int32))), .val (.double (FP.ddiv (FP.i2d (sr &&& (2147483647 : Int32))) (4616189618054758400 : UInt64))), .second, .val (.double (FP.i2d av)), .second, .val (.double (FP.ddiv (FP.i2d ((tr &&& (2097151 : Int32)) + (1 : Int32))) (4620693217682128896 : UInt64))), .second, .val (.double (own_es (FP.ddiv (FP.i2d (sr &&& (2147483647 : Int32))) (4616189618054758400 : UInt64)) (FP.i2d av) (FP.ddiv (FP.i2d ((tr &&& (2097151 : Int32)) + (1 : Int32))) (4620693217682128896 : UInt64)))), .second, .val (.long (((2 : Int64) * ((sr &&& (2147483647 : Int32)).toInt64)) + ((av.toInt64) * (((tr &&& (2097151 : Int32)) + (1 : Int32)).toInt64)))), .second, .unset, .unset] [(.double (4620693217682128896 : UInt64)), (.double (FP.l2d (((2 : Int64) * ((sr &&& (2147483647 : Int32)).toInt64)) + ((av.toInt64) * (((tr &&& (2097151 : Int32)) + (1 : Int32)).toInt64)))))])) _
        refine XS.ddivS X32.here hx rfl (hb hby at_99) rfl (own_ex_dy sr av tr).no rfl ?_
        show Steps p.tables e below (T28.setTop (mkF m 100 #[.val (.int sr), .val (.int av), .val (.int tr), .val (.int kv), .val (.ref aE), .val (.int (sr &&& (2147483647 : Int32))), .val (.int ((tr &&& (2097151 : Int32)) + (1 : Int32))), .val (.double (FP.ddiv (FP.i2d (sr &&& (2147483647 : Int32))) (4616189618054758400 : UInt64))), .second, .val (.double (FP.i2d av)), .second, .val (.double (FP.ddiv (FP.i2d ((tr &&& (2097151 : Int32)) + (1 : Int32))) (4620693217682128896 : UInt64))), .second, .val (.double (own_es (FP.ddiv (FP.i2d (sr &&& (2147483647 : Int32))) (4616189618054758400 : UInt64)) (FP.i2d av) (FP.ddiv (FP.i2d ((tr &&& (2097151 : Int32)) + (1 : Int32))) (4620693217682128896 : UInt64)))), .second, .val (.long (((2 : Int64) * ((sr &&& (2147483647 : Int32)).toInt64)) + ((av.toInt64) * (((tr &&& (2097151 : Int32)) + (1 : Int32)).toInt64)))), .second, .unset, .unset] [(.double (FP.ddiv (FP.l2d (((2 : Int64) * ((sr &&& (2147483647 : Int32)).toInt64)) + ((av.toInt64) * (((tr &&& (2097151 : Int32)) + (1 : Int32)).toInt64)))) (4620693217682128896 : UInt64)))])) _
        refine XS.dstore X32.here hx rfl (hb hby at_100) rfl (l' := #[.val (.int sr), .val (.int av), .val (.int tr), .val (.int kv), .val (.ref aE), .val (.int (sr &&& (2147483647 : Int32))), .val (.int ((tr &&& (2097151 : Int32)) + (1 : Int32))), .val (.double (FP.ddiv (FP.i2d (sr &&& (2147483647 : Int32))) (4616189618054758400 : UInt64))), .second, .val (.double (FP.i2d av)), .second, .val (.double (FP.ddiv (FP.i2d ((tr &&& (2097151 : Int32)) + (1 : Int32))) (4620693217682128896 : UInt64))), .second, .val (.double (own_es (FP.ddiv (FP.i2d (sr &&& (2147483647 : Int32))) (4616189618054758400 : UInt64)) (FP.i2d av) (FP.ddiv (FP.i2d ((tr &&& (2097151 : Int32)) + (1 : Int32))) (4620693217682128896 : UInt64)))), .second, .val (.long (((2 : Int64) * ((sr &&& (2147483647 : Int32)).toInt64)) + ((av.toInt64) * (((tr &&& (2097151 : Int32)) + (1 : Int32)).toInt64)))), .second, .val (.double (FP.ddiv (FP.l2d (((2 : Int64) * ((sr &&& (2147483647 : Int32)).toInt64)) + ((av.toInt64) * (((tr &&& (2097151 : Int32)) + (1 : Int32)).toInt64)))) (4620693217682128896 : UInt64))), .second]) rfl ?_
        show Steps p.tables e below (T28.setTop (mkF m 102 #[.val (.int sr), .val (.int av), .val (.int tr), .val (.int kv), .val (.ref aE), .val (.int (sr &&& (2147483647 : Int32))), .val (.int ((tr &&& (2097151 : Int32)) + (1 : Int32))), .val (.double (FP.ddiv (FP.i2d (sr &&& (2147483647 : Int32))) (4616189618054758400 : UInt64))), .second, .val (.double (FP.i2d av)), .second, .val (.double (FP.ddiv (FP.i2d ((tr &&& (2097151 : Int32)) + (1 : Int32))) (4620693217682128896 : UInt64))), .second, .val (.double (own_es (FP.ddiv (FP.i2d (sr &&& (2147483647 : Int32))) (4616189618054758400 : UInt64)) (FP.i2d av) (FP.ddiv (FP.i2d ((tr &&& (2097151 : Int32)) + (1 : Int32))) (4620693217682128896 : UInt64)))), .second, .val (.long (((2 : Int64) * ((sr &&& (2147483647 : Int32)).toInt64)) + ((av.toInt64) * (((tr &&& (2097151 : Int32)) + (1 : Int32)).toInt64)))), .second, .val (.double (FP.ddiv (FP.l2d (((2 : Int64) * ((sr &&& (2147483647 : Int32)).toInt64)) + ((av.toInt64) * (((tr &&& (2097151 : Int32)) + (1 : Int32)).toInt64)))) (4620693217682128896 : UInt64))), .second] [])) _
        refine XS.dload X32.here hx rfl (hb hby at_102) rfl ?_
        show Steps p.tables e below (T28.setTop (mkF m 104 #[.val (.int sr), .val (.int av), .val (.int tr), .val (.int kv), .val (.ref aE), .val (.int (sr &&& (2147483647 : Int32))), .val (.int ((tr &&& (2097151 : Int32)) + (1 : Int32))), .val (.double (FP.ddiv (FP.i2d (sr &&& (2147483647 : Int32))) (4616189618054758400 : UInt64))), .second, .val (.double (FP.i2d av)), .second, .val (.double (FP.ddiv (FP.i2d ((tr &&& (2097151 : Int32)) + (1 : Int32))) (4620693217682128896 : UInt64))), .second, .val (.double (own_es (FP.ddiv (FP.i2d (sr &&& (2147483647 : Int32))) (4616189618054758400 : UInt64)) (FP.i2d av) (FP.ddiv (FP.i2d ((tr &&& (2097151 : Int32)) + (1 : Int32))) (4620693217682128896 : UInt64)))), .second, .val (.long (((2 : Int64) * ((sr &&& (2147483647 : Int32)).toInt64)) + ((av.toInt64) * (((tr &&& (2097151 : Int32)) + (1 : Int32)).toInt64)))), .second, .val (.double (FP.ddiv (FP.l2d (((2 : Int64) * ((sr &&& (2147483647 : Int32)).toInt64)) + ((av.toInt64) * (((tr &&& (2097151 : Int32)) + (1 : Int32)).toInt64)))) (4620693217682128896 : UInt64))), .second] [(.double (own_es (FP.ddiv (FP.i2d (sr &&& (2147483647 : Int32))) (4616189618054758400 : UInt64)) (FP.i2d av) (FP.ddiv (FP.i2d ((tr &&& (2097151 : Int32)) + (1 : Int32))) (4620693217682128896 : UInt64))))])) _
        refine XS.dload X32.here hx rfl (hb hby at_104) rfl ?_
        show Steps p.tables e below (T28.setTop (mkF m 106 #[.val (.int sr), .val (.int av), .val (.int tr), .val (.int kv), .val (.ref aE), .val (.int (sr &&& (2147483647 : Int32))), .val (.int ((tr &&& (2097151 : Int32)) + (1 : Int32))), .val (.double (FP.ddiv (FP.i2d (sr &&& (2147483647 : Int32))) (4616189618054758400 : UInt64))), .second, .val (.double (FP.i2d av)), .second, .val (.double (FP.ddiv (FP.i2d ((tr &&& (2097151 : Int32)) + (1 : Int32))) (4620693217682128896 : UInt64))), .second, .val (.double (own_es (FP.ddiv (FP.i2d (sr &&& (2147483647 : Int32))) (4616189618054758400 : UInt64)) (FP.i2d av) (FP.ddiv (FP.i2d ((tr &&& (2097151 : Int32)) + (1 : Int32))) (4620693217682128896 : UInt64)))), .second, .val (.long (((2 : Int64) * ((sr &&& (2147483647 : Int32)).toInt64)) + ((av.toInt64) * (((tr &&& (2097151 : Int32)) + (1 : Int32)).toInt64)))), .second, .val (.double (FP.ddiv (FP.l2d (((2 : Int64) * ((sr &&& (2147483647 : Int32)).toInt64)) + ((av.toInt64) * (((tr &&& (2097151 : Int32)) + (1 : Int32)).toInt64)))) (4620693217682128896 : UInt64))), .second] [(.double (FP.ddiv (FP.l2d (((2 : Int64) * ((sr &&& (2147483647 : Int32)).toInt64)) + ((av.toInt64) * (((tr &&& (2097151 : Int32)) + (1 : Int32)).toInt64)))) (4620693217682128896 : UInt64))), (.double (own_es (FP.ddiv (FP.i2d (sr &&& (2147483647 : Int32))) (4616189618054758400 : UInt64)) (FP.i2d av) (FP.ddiv (FP.i2d ((tr &&& (2097151 : Int32)) + (1 : Int32))) (4620693217682128896 : UInt64))))])) _
        refine XS.dcmpS X32.here hx rfl (hb hby at_106) rfl (own_fin2 sr av tr c86) ?_
        show Steps p.tables e below (T28.setTop (mkF m 107 #[.val (.int sr), .val (.int av), .val (.int tr), .val (.int kv), .val (.ref aE), .val (.int (sr &&& (2147483647 : Int32))), .val (.int ((tr &&& (2097151 : Int32)) + (1 : Int32))), .val (.double (FP.ddiv (FP.i2d (sr &&& (2147483647 : Int32))) (4616189618054758400 : UInt64))), .second, .val (.double (FP.i2d av)), .second, .val (.double (FP.ddiv (FP.i2d ((tr &&& (2097151 : Int32)) + (1 : Int32))) (4620693217682128896 : UInt64))), .second, .val (.double (own_es (FP.ddiv (FP.i2d (sr &&& (2147483647 : Int32))) (4616189618054758400 : UInt64)) (FP.i2d av) (FP.ddiv (FP.i2d ((tr &&& (2097151 : Int32)) + (1 : Int32))) (4620693217682128896 : UInt64)))), .second, .val (.long (((2 : Int64) * ((sr &&& (2147483647 : Int32)).toInt64)) + ((av.toInt64) * (((tr &&& (2097151 : Int32)) + (1 : Int32)).toInt64)))), .second, .val (.double (FP.ddiv (FP.l2d (((2 : Int64) * ((sr &&& (2147483647 : Int32)).toInt64)) + ((av.toInt64) * (((tr &&& (2097151 : Int32)) + (1 : Int32)).toInt64)))) (4620693217682128896 : UInt64))), .second] [(.int (0 : Int32))])) _
        refine XS.ifNo X32.here hx rfl (hb hby at_107) rfl (by decide) ?_
        show Steps p.tables e below (T28.setTop (mkF m 110 #[.val (.int sr), .val (.int av), .val (.int tr), .val (.int kv), .val (.ref aE), .val (.int (sr &&& (2147483647 : Int32))), .val (.int ((tr &&& (2097151 : Int32)) + (1 : Int32))), .val (.double (FP.ddiv (FP.i2d (sr &&& (2147483647 : Int32))) (4616189618054758400 : UInt64))), .second, .val (.double (FP.i2d av)), .second, .val (.double (FP.ddiv (FP.i2d ((tr &&& (2097151 : Int32)) + (1 : Int32))) (4620693217682128896 : UInt64))), .second, .val (.double (own_es (FP.ddiv (FP.i2d (sr &&& (2147483647 : Int32))) (4616189618054758400 : UInt64)) (FP.i2d av) (FP.ddiv (FP.i2d ((tr &&& (2097151 : Int32)) + (1 : Int32))) (4620693217682128896 : UInt64)))), .second, .val (.long (((2 : Int64) * ((sr &&& (2147483647 : Int32)).toInt64)) + ((av.toInt64) * (((tr &&& (2097151 : Int32)) + (1 : Int32)).toInt64)))), .second, .val (.double (FP.ddiv (FP.l2d (((2 : Int64) * ((sr &&& (2147483647 : Int32)).toInt64)) + ((av.toInt64) * (((tr &&& (2097151 : Int32)) + (1 : Int32)).toInt64)))) (4620693217682128896 : UInt64))), .second] [])) _
        refine XS.iconst X32.here hx rfl (hb hby at_110) ?_
        show Steps p.tables e below (T28.setTop (mkF m 111 #[.val (.int sr), .val (.int av), .val (.int tr), .val (.int kv), .val (.ref aE), .val (.int (sr &&& (2147483647 : Int32))), .val (.int ((tr &&& (2097151 : Int32)) + (1 : Int32))), .val (.double (FP.ddiv (FP.i2d (sr &&& (2147483647 : Int32))) (4616189618054758400 : UInt64))), .second, .val (.double (FP.i2d av)), .second, .val (.double (FP.ddiv (FP.i2d ((tr &&& (2097151 : Int32)) + (1 : Int32))) (4620693217682128896 : UInt64))), .second, .val (.double (own_es (FP.ddiv (FP.i2d (sr &&& (2147483647 : Int32))) (4616189618054758400 : UInt64)) (FP.i2d av) (FP.ddiv (FP.i2d ((tr &&& (2097151 : Int32)) + (1 : Int32))) (4620693217682128896 : UInt64)))), .second, .val (.long (((2 : Int64) * ((sr &&& (2147483647 : Int32)).toInt64)) + ((av.toInt64) * (((tr &&& (2097151 : Int32)) + (1 : Int32)).toInt64)))), .second, .val (.double (FP.ddiv (FP.l2d (((2 : Int64) * ((sr &&& (2147483647 : Int32)).toInt64)) + ((av.toInt64) * (((tr &&& (2097151 : Int32)) + (1 : Int32)).toInt64)))) (4620693217682128896 : UInt64))), .second] [(.int (1 : Int32))])) _
        refine XS.goto X32.here hx rfl (pc0 := 111) (pc' := 115) rfl (hb hby at_111) (by decide) (by decide) ?_
        show Steps p.tables e below (T28.setTop (mkF m 115 #[.val (.int sr), .val (.int av), .val (.int tr), .val (.int kv), .val (.ref aE), .val (.int (sr &&& (2147483647 : Int32))), .val (.int ((tr &&& (2097151 : Int32)) + (1 : Int32))), .val (.double (FP.ddiv (FP.i2d (sr &&& (2147483647 : Int32))) (4616189618054758400 : UInt64))), .second, .val (.double (FP.i2d av)), .second, .val (.double (FP.ddiv (FP.i2d ((tr &&& (2097151 : Int32)) + (1 : Int32))) (4620693217682128896 : UInt64))), .second, .val (.double (own_es (FP.ddiv (FP.i2d (sr &&& (2147483647 : Int32))) (4616189618054758400 : UInt64)) (FP.i2d av) (FP.ddiv (FP.i2d ((tr &&& (2097151 : Int32)) + (1 : Int32))) (4620693217682128896 : UInt64)))), .second, .val (.long (((2 : Int64) * ((sr &&& (2147483647 : Int32)).toInt64)) + ((av.toInt64) * (((tr &&& (2097151 : Int32)) + (1 : Int32)).toInt64)))), .second, .val (.double (FP.ddiv (FP.l2d (((2 : Int64) * ((sr &&& (2147483647 : Int32)).toInt64)) + ((av.toInt64) * (((tr &&& (2097151 : Int32)) + (1 : Int32)).toInt64)))) (4620693217682128896 : UInt64))), .second] [(.int (1 : Int32))])) _
        exact hh)
      obtain ⟨fs, hr, hrun, hended, hW, hsame⟩ := X32.leave (v := some (.int (1 : Int32))) (fun h => by rw [Bd.returns] at h; cases h)
      refine ⟨_, _, k15 _ (retN X32 hx (t := .boolean) Bd.returns (by simp) (hb hby at_115) hr), hrun, hended, _, _, rfl, ?_, ⟨_, rfl⟩, hW, hsame.mono (by decide) (by decide)⟩
      show QL h0 n0 _ T28.heap _
      rw [e45]
      exact ⟨rfl, N46⟩
set_option maxRecDepth 65536 in
set_option maxHeartbeats 40000000 in
theorem comes_1 {Post : Tables → Env → Array Value → State → Outcome → State → Prop} (hpost : ∀ tb e args s v u, (limb_1_1.after args s (.returned v) u = true ∧ limb_1_2.after args s (.returned v) u = true ∧ True) → FrameEnd s (.returned v) u (Jvm.fieldLocs frame_1_writes args s ++ Jvm.arrayLocs frame_1_arrays args s ++ Jvm.staticLocs frame_1_statics s) 0 0 → Post tb e args s (.returned v) u) :
    ArmFor flags0 classFile x code maxLocals ret World_1 tables_1 room_1 Calls_1 rest_1 Pre_1 Post := by
  intro l hfl _ _ p e ha hc hk s m args below hf hA hF happ hP
  obtain ⟨hcalls, hrest, hpre⟩ := hP
  obtain ⟨-, -, -, hnamed, -, -, -, hat⟩ := (Spec.applies_iff hf).mp happ
  obtain ⟨hg, hn⟩ := and_e (Cond.before_iff.mp (show (Jvm.Cond.and given_1 narrow_1).before args s = true from hpre))
  obtain ⟨h1, g0⟩ := and_e hg
  obtain ⟨j0, g1⟩ := and_e g0
  obtain ⟨j1, g2⟩ := and_e g1
  obtain ⟨j2, g3⟩ := and_e g2
  have j3 := g3
  obtain ⟨w0, w1, w2, w3, rfl⟩ : ∃ w0 w1 w2 w3 : Value, args = #[w0, w1, w2, w3] := by
    have hs : args.size = 4 := by simpa [Cond.value, given_1] using h1
    obtain ⟨L⟩ := args
    match L, hs with
    | [w0, w1, w2, w3], _ => exact ⟨w0, w1, w2, w3, rfl⟩
  have hw := fun d (hd : d ∈ tables_1) => atoms_spec (ws := Jvm.Cond.code x code maxLocals ret :: tables_1) hat d (List.mem_cons_of_mem _ hd)
  have hfit : Fit s := fun {y c} hc i hi => by
    obtain ⟨ha, rfl⟩ := Array.getElem?_eq_some_iff.mp hc
    have q := List.all_eq_true.mp ((Array.all_eq_true_iff_forall_mem.mp hF) _ (Array.getElem_mem ha)) i (List.mem_range.mpr hi)
    simpa [Array.getElem?_eq_getElem hi] using q
  obtain ⟨i0, q0⟩ := is_v j0
  obtain rfl : w0 = (.int i0) := Option.some.inj q0
  obtain ⟨i1, q1⟩ := is_v j1
  obtain rfl : w1 = (.int i1) := Option.some.inj q1
  obtain ⟨i2, q2⟩ := is_v j2
  obtain rfl : w2 = (.int i2) := Option.some.inj q2
  obtain ⟨i3, q3⟩ := is_v j3
  obtain rfl : w3 = (.int i3) := Option.some.inj q3
  obtain ⟨u1, u2⟩ := and_e hn
  obtain ⟨aE, vE⟩ := exa_v u1
  obtain ⟨aC, vC⟩ := exa_v u2
  have xE := Exa.start vE u1
  have xC := Exa.start vC u2
  have sE : Sta s s.heap "com/example/ample_gap/amplegap/simulation/Update" "END_SPEED" "Lcom/example/ample_gap/amplegap/simulation/Update;" (.ref aE) := Sta.start vE (Or.inr ⟨(wT hw 1 rfl), (wT hw 2 rfl)⟩)
  have sC : Sta s s.heap "com/example/ample_gap/amplegap/simulation/Update" "CONSTANT_ACCELERATION" "Lcom/example/ample_gap/amplegap/simulation/Update;" (.ref aC) := Sta.start vC (Or.inr ⟨(wT hw 1 rfl), (wT hw 14 rfl)⟩)
  obtain ⟨n, o, h1, h2, h3, _, L, rfl, ⟨rfl, N⟩, hq⟩ := rmL l s _ hw tables_1 i0 i1 i2 i3 s.heap s.heap.size (Nat.le_refl _) aE aC sE sC xE xC p e ha hc hk s m _ below hf ((Spec.applies_iff_loose hf).mp happ).1 ⟨rfl, State.Warmed39.refl s, rfl⟩ trivial
  refine ⟨n, _, h1, h2, h3, hpost _ _ _ _ _ _ ⟨Cond.after_iff.mpr rfl, Cond.after_iff.mpr (eq_i res_at (Term.int_eval (1)) rfl), trivial⟩ ⟨hq.1, hq.2.1, (hq.2.2.sift fun y hy => Or.inr (N y hy)).mono (by decide) (by decide)⟩⟩
theorem main_1_1 : Claimed_1_1 := comes_1 fun _ _ _ _ _ _ h hF => ⟨h.1, hF⟩
theorem main_1_2 : Claimed_1_2 := comes_1 fun _ _ _ _ _ _ h hF => ⟨h.2.1, hF⟩
end Jvm.Pilot.@@N@@
namespace Jvm.Pilot.@@N@@
open Jvm Jvm.ClassFile Sem Op Lib Jvm.Free Jvm.Stand Jvm.Pilot.@@N@@.Jvm.D
/-! MADE BY PROGRAM (witnessworld.py) out of the Statement's table words and the real class files: 14 classes; the members and pool entries that the words name. The judged class is class 1, her method 1. -/
namespace start1
open Jvm.ClassFile
def u (s : String) : CpInfo := .utf8 (stringToUtf16 s)
/-- a pool by its gaps: so many unusable entries, then the entry; so many at the end -/
def gap : Nat → List CpInfo → List CpInfo
  | 0, r => r
  | n + 1, r => .unusable :: gap n r
def poolList (es : List (Nat × CpInfo)) (last : Nat) : List CpInfo := es.foldr (fun e r => gap e.1 (e.2 :: r)) (gap last [])
def pool (es : List (Nat × CpInfo)) (last : Nat) : Array CpInfo := ⟨poolList es last⟩
def fileOf (pool : Array CpInfo) (this : Nat) (attrs : Array Attribute := #[]) (ms : Array MethodInfo := #[]) (fl : Nat := 33) (sup : Nat := 0) (ifs : Array Nat := #[]) (fds : Array FieldInfo := #[]) : ClassFile where
  minorVersion := 0
  majorVersion := 65
  constantPool := pool
  accessFlags := fl
  thisClass := this
  superClass := sup
  interfaces := ifs
  fields := fds
  methods := ms
  attributes := attrs
def plain (name : String) (sup : Option ClassId) : Class where
  name := name
  kind := .ordinary
  loader := none
  accessFlags := 33
  super := sup
  interfaces := #[]
  cf := none
  fields := #[]
  methods := #[]
  instanceTypes := #[]
  staticTypes := #[]
  resolved := #[]
  callSites := []
  init := .initialized
  statics := none
  mirror := none

def pool0 : Array CpInfo := pool [(5, u "<init>"), (0, u "()V"), (1, .class_ 10), (1, u "java/lang/Object")] 113

def k0m0 : Method := { name := "<init>", desc := "()V", sig := { parameters := [], returnType := none }, accessFlags := 1, code := none }
/-- java/lang/Object -/
def k0 : Class := { plain "java/lang/Object" none with
  accessFlags := 33
  interfaces := #[]
  cf := some (fileOf pool0 8 #[] #[{ accessFlags := 1, nameIndex := 5, descriptorIndex := 6, attributes := #[] }] 33 0 #[] #[])
  fields := #[]
  methods := #[k0m0]
  instanceTypes := #[]
  staticTypes := #[]
  resolved := Array.replicate 124 none
  statics := none }

def pool1 : Array CpInfo := pool [(2, .class_ 4), (1, u "java/lang/Object"), (0, u "<init>"), (0, u "()V"), (0, .fieldref 8 9), (0, .class_ 10), (0, .nameAndType 11 12), (0, u "com/example/ample_gap/amplegap/simulation/Update"), (0, u "CONSTANT_ACCELERATION"), (0, u "Lcom/example/ample_gap/amplegap/simulation/Update;"), (0, .fieldref 8 14), (0, .nameAndType 15 12), (0, u "END_SPEED"), (0, .integer 2147483647), (0, .integer 2097151), (0, .double 4616189618054758400), (1, .double 4620693217682128896), (1, .methodref 8 23), (0, .nameAndType 24 25), (0, u "endSpeed"), (0, u "(DDD)D"), (0, .long 2), (1, .class_ 29), (0, u "com/example/ample_gap/amplegap/simulation/UpdateEndSpeedPinLaw"), (2, u "law"), (0, u "(IIII)Z")] 3

def k1m0 : Method := { name := "<init>", desc := "()V", sig := { parameters := [], returnType := none }, accessFlags := 2, code := none }
def k1c1 : Code := { maxStack := 7, maxLocals := 19, code := code, exceptionTable := #[], attributes := #[] }
def k1m1 : Method := { name := "law", desc := "(IIII)Z", sig := { parameters := [.int, .int, .int, .int], returnType := some .boolean }, accessFlags := 9, code := some k1c1 }
/-- com/example/ample_gap/amplegap/simulation/UpdateEndSpeedPinLaw -/
def k1 : Class := { plain "com/example/ample_gap/amplegap/simulation/UpdateEndSpeedPinLaw" (some 0) with
  accessFlags := 49
  interfaces := #[]
  cf := some (fileOf pool1 28 #[] #[{ accessFlags := 2, nameIndex := 5, descriptorIndex := 6, attributes := #[] }, { accessFlags := 9, nameIndex := 32, descriptorIndex := 33, attributes := #[] }] 49 2 #[] #[])
  fields := #[]
  methods := #[k1m0, k1m1]
  instanceTypes := #[]
  staticTypes := #[]
  resolved := Array.replicate 37 none
  statics := none }

def pool2 : Array CpInfo := pool [(1, .class_ 2), (0, u "java/lang/constant/Constable"), (0, .class_ 4), (0, u "java/lang/Object")] 6

/-- java/lang/constant/Constable -/
def k2 : Class := { plain "java/lang/constant/Constable" (some 0) with
  accessFlags := 1537
  interfaces := #[]
  cf := some (fileOf pool2 1 #[] #[] 1537 3 #[] #[])
  fields := #[]
  methods := #[]
  instanceTypes := #[]
  staticTypes := #[]
  resolved := Array.replicate 11 none
  statics := none }

def pool3 : Array CpInfo := pool [(1, .class_ 2), (0, u "java/lang/Comparable"), (0, .class_ 4), (0, u "java/lang/Object")] 7

/-- java/lang/Comparable -/
def k3 : Class := { plain "java/lang/Comparable" (some 0) with
  accessFlags := 1537
  interfaces := #[]
  cf := some (fileOf pool3 1 #[] #[] 1537 3 #[] #[])
  fields := #[]
  methods := #[]
  instanceTypes := #[]
  staticTypes := #[]
  resolved := Array.replicate 12 none
  statics := none }

def pool4 : Array CpInfo := pool [(1, .class_ 2), (0, u "java/io/Serializable"), (0, .class_ 4), (0, u "java/lang/Object")] 2

/-- java/io/Serializable -/
def k4 : Class := { plain "java/io/Serializable" (some 0) with
  accessFlags := 1537
  interfaces := #[]
  cf := some (fileOf pool4 1 #[] #[] 1537 3 #[] #[])
  fields := #[]
  methods := #[]
  instanceTypes := #[]
  staticTypes := #[]
  resolved := Array.replicate 7 none
  statics := none }

def pool5 : Array CpInfo := pool [(2, .class_ 4), (1, u "java/lang/Enum"), (0, u "name"), (0, u "Ljava/lang/String;"), (2, u "ordinal"), (0, u "I"), (1, .class_ 14), (1, u "java/lang/Object"), (4, u "hash"), (86, .class_ 108), (1, u "java/lang/Enum$EnumDesc"), (2, .class_ 112), (0, u "java/lang/constant/Constable"), (0, .class_ 114), (0, u "java/lang/Comparable"), (0, .class_ 116), (0, u "java/io/Serializable")] 87

/-- java/lang/Enum -/
def k5 : Class := { plain "java/lang/Enum" (some 0) with
  accessFlags := 1057
  interfaces := #[2, 3, 4]
  cf := some (fileOf pool5 2 #[.nestMembers #[106]] #[] 1057 12 #[111, 113, 115] #[{ accessFlags := 18, nameIndex := 5, descriptorIndex := 6, attributes := #[] }, { accessFlags := 18, nameIndex := 9, descriptorIndex := 10, attributes := #[] }, { accessFlags := 2, nameIndex := 19, descriptorIndex := 10, attributes := #[] }])
  fields := #[{ name := "name", type := (.object "java/lang/String"), accessFlags := 18, slot := 0, constantValue := 0 }, { name := "ordinal", type := .int, accessFlags := 18, slot := 1, constantValue := 0 }, { name := "hash", type := .int, accessFlags := 2, slot := 2, constantValue := 0 }]
  methods := #[]
  instanceTypes := #[(.object "java/lang/String"), .int, .int]
  staticTypes := #[]
  resolved := Array.replicate 204 none
  statics := none }

def pool6 : Array CpInfo := pool [(1, .class_ 2), (0, u "com/example/ample_gap/amplegap/simulation/Update"), (2, u "CONSTANT_ACCELERATION"), (0, u "Lcom/example/ample_gap/amplegap/simulation/Update;"), (2, u "END_SPEED"), (2, u "$VALUES"), (0, u "[Lcom/example/ample_gap/amplegap/simulation/Update;"), (6, .class_ 22), (1, u "java/lang/Enum"), (6, .class_ 30), (0, u "com/example/ample_gap/amplegap/simulation/Update$1"), (2, .class_ 34), (0, u "com/example/ample_gap/amplegap/simulation/Update$2"), (6, u "START_TOLERANCE"), (0, u "D"), (10, u "endSpeed"), (0, u "(DDD)D")] 12

def k6c0 : Code := { maxStack := 6, maxLocals := 9, code := prog_55_method_4_code, exceptionTable := #[], attributes := #[] }
def k6m0 : Method := { name := "endSpeed", desc := "(DDD)D", sig := { parameters := [.double, .double, .double], returnType := some .double }, accessFlags := 1, code := some k6c0 }
/-- com/example/ample_gap/amplegap/simulation/Update -/
def k6 : Class := { plain "com/example/ample_gap/amplegap/simulation/Update" (some 5) with
  accessFlags := 17441
  interfaces := #[]
  cf := some (fileOf pool6 1 #[.nestMembers #[33, 29]] #[{ accessFlags := 1, nameIndex := 53, descriptorIndex := 54, attributes := #[] }] 17441 20 #[] #[{ accessFlags := 16409, nameIndex := 5, descriptorIndex := 6, attributes := #[] }, { accessFlags := 16409, nameIndex := 9, descriptorIndex := 6, attributes := #[] }, { accessFlags := 26, nameIndex := 41, descriptorIndex := 42, attributes := #[] }, { accessFlags := 4122, nameIndex := 12, descriptorIndex := 13, attributes := #[] }])
  fields := #[{ name := "CONSTANT_ACCELERATION", type := (.object "com/example/ample_gap/amplegap/simulation/Update"), accessFlags := 16409, slot := 0, constantValue := 0 }, { name := "END_SPEED", type := (.object "com/example/ample_gap/amplegap/simulation/Update"), accessFlags := 16409, slot := 1, constantValue := 0 }, { name := "START_TOLERANCE", type := .double, accessFlags := 26, slot := 2, constantValue := 0 }, { name := "$VALUES", type := (.array (.object "com/example/ample_gap/amplegap/simulation/Update")), accessFlags := 4122, slot := 3, constantValue := 0 }]
  methods := #[k6m0]
  instanceTypes := #[(.object "java/lang/String"), .int, .int]
  staticTypes := #[(.object "com/example/ample_gap/amplegap/simulation/Update"), (.object "com/example/ample_gap/amplegap/simulation/Update"), .double, (.array (.object "com/example/ample_gap/amplegap/simulation/Update"))]
  resolved := Array.replicate 67 none
  statics := some 0 }

def pool7 : Array CpInfo := pool [(1, .class_ 2), (0, u "com/example/ample_gap/amplegap/simulation/Update"), (5, .class_ 10), (1, u "com/example/ample_gap/amplegap/simulation/Update$2")] 17

/-- com/example/ample_gap/amplegap/simulation/Update$2 -/
def k7 : Class := { plain "com/example/ample_gap/amplegap/simulation/Update$2" (some 6) with
  accessFlags := 16432
  interfaces := #[]
  cf := some (fileOf pool7 8 #[.nestHost 1] #[] 16432 1 #[] #[])
  fields := #[]
  methods := #[]
  instanceTypes := #[(.object "java/lang/String"), .int, .int]
  staticTypes := #[]
  resolved := Array.replicate 28 none
  statics := none }

def pool8 : Array CpInfo := pool [(2, .class_ 4), (1, u "com/example/ample_gap/amplegap/simulation/Update"), (14, .class_ 20), (0, u "com/example/ample_gap/amplegap/simulation/Update$1")] 14

/-- com/example/ample_gap/amplegap/simulation/Update$1 -/
def k8 : Class := { plain "com/example/ample_gap/amplegap/simulation/Update$1" (some 6) with
  accessFlags := 16432
  interfaces := #[]
  cf := some (fileOf pool8 19 #[.nestHost 2] #[] 16432 2 #[] #[])
  fields := #[]
  methods := #[]
  instanceTypes := #[(.object "java/lang/String"), .int, .int]
  staticTypes := #[]
  resolved := Array.replicate 35 none
  statics := none }

def pool9 : Array CpInfo := pool [(1, u "java/lang/Cloneable"), (0, .class_ 1), (0, u "java/lang/Object"), (0, .class_ 3)] 3

/-- java/lang/Cloneable -/
def k9 : Class := { plain "java/lang/Cloneable" (some 0) with
  accessFlags := 1537
  interfaces := #[]
  cf := some (fileOf pool9 2 #[] #[] 1537 4 #[] #[])
  fields := #[]
  methods := #[]
  instanceTypes := #[]
  staticTypes := #[]
  resolved := Array.replicate 8 none
  statics := none }

/-- the primitive byte -/
def k10 : Class := { plain "byte" none with kind := .primitive 'B', accessFlags := 0x411 }
/-- [B -/
def k11 : Class := { plain "[B" (some 0) with kind := .array 10 .byte, interfaces := #[9, 4], accessFlags := 1041 }

/-- the primitive int -/
def k12 : Class := { plain "int" none with kind := .primitive 'I', accessFlags := 0x411 }
/-- [I -/
def k13 : Class := { plain "[I" (some 0) with kind := .array 12 .int, interfaces := #[9, 4], accessFlags := 1041 }

def heap : Heap := #[{ cls := 6, slots := #[.ref 2, .ref 1, .double 0, .null], vm := .statics 6 },
  { cls := 7, slots := #[.null, .int 1, .int 0], vm := .none },
  { cls := 8, slots := #[.null, .int 0, .int 0], vm := .none }]
def classes : Array Class := #[k0, k1, k2, k3, k4, k5, k6, k7, k8, k9, k10, k11, k12, k13]
def interned : List (Array UInt16 × Addr) := []
def slotsUsed : Nat := 10
def theMethod : MethodId := ⟨1, 1⟩
def args0 : Array Value := #[.int 5, .int 3, .int 7, .int 1]
def aboutOver (below : List Frame) : State where
  vm := { classes := classes, interned := interned.toArray }
  heap := heap
  slotsUsed := slotsUsed
  threads := #[{ frames := .invoking theMethod args0 :: below }]
def below0 : List Frame := [.native { method := ⟨0, 0⟩, args := #[] }]
def about1 : State := aboutOver below0
def p0 : Program := .bare "" "" ""
def e0 : Env := launch0.env 0 0 0
theorem w_frames : about1.frames = Frame.invoking theMethod args0 :: below0 := rfl
set_option maxRecDepth 65536 in
theorem w_args : argsFit about1.vm theMethod args0 = true := by decide +kernel
set_option maxRecDepth 65536 in
theorem w_heap : heapFits about1 = true := by decide +kernel
set_option maxRecDepth 65536 in
theorem w_runnable : about1.curStatus? = some .runnable := by decide +kernel
set_option maxRecDepth 65536 in
theorem w_alone : about1.alone = true := by decide +kernel
set_option maxRecDepth 65536 in
theorem w_named : about1.methodNamed? x = some theMethod := by decide +kernel
set_option maxRecDepth 65536 in
theorem w_hears : about1.hears theMethod below0 = true := by decide +kernel
set_option maxRecDepth 65536 in
theorem w_ripe : about1.ripe theMethod args0 below0 = true := by decide +kernel
theorem w_running : about1.status = .running := rfl
set_option maxRecDepth 65536 in
theorem w_room : about1.hasRoom e0.platform room_1 = true :=
  launch0.hasRoom_least _ room_1 (by decide +kernel) (by decide +kernel) (by decide +kernel) (by decide +kernel) (by decide +kernel) (by decide +kernel)
theorem allAtoms_all (ts : List Jvm.Cond) (a : Array Jvm.Value) (st : Jvm.State) : (allAtoms ts).before a st = ts.all (fun c => c.before a st) := by
  induction ts with
  | nil => rfl
  | cons c t ih =>
    show (Jvm.Cond.and c (allAtoms t)).before a st = _
    rw [Jvm.Cond.before_and, ih, List.all_cons]
def words1 : List Jvm.Cond := Jvm.Cond.code x code maxLocals ret :: tables_1
/-- a 'code' word, met by the world's own term for the bytes: nothing is compared byte by byte -/
theorem code_word {y : MethodName} {bytes : ByteArray} {mx : Nat} {rt : Option FieldType} {a : Array Value} {s : State} {m : MethodId} {meth : Method} {c : Code} (h1 : s.methodNamed? y = some m) (h2 : s.vm.method? m = some meth) (h3 : meth.code = some c) (h4 : c.code = bytes)
    (h5 : (c.maxLocals == mx && c.exceptionTable.isEmpty && decide (c.maxStack ≤ mostOperands) && decide (meth.sig.returnType = rt) && !meth.locks && decide (parseMethodDescriptor y.desc = some meth.sig)) = true) : (Jvm.Cond.code y bytes mx rt).before a s = true := by
  simp only [Bool.and_eq_true, beq_iff_eq, Bool.not_eq_true', decide_eq_true_eq] at h5
  obtain ⟨⟨⟨⟨⟨g1, g2⟩, g3⟩, g4⟩, g5⟩, g6⟩ := h5
  simp [Cond.before, Cond.holds, Cond.value, h1, h2, h3, h4, g1, g2, g3, g4, g5, g6]
def isCode : Jvm.Cond → Bool
  | .code _ _ _ _ => true
  | _ => false
theorem all_split {L : List Jvm.Cond} {P : Jvm.Cond → Bool} (h1 : L.all (fun c => isCode c || P c) = true) (h2 : ∀ c ∈ L.filter isCode, P c = true) : L.all P = true := by
  refine List.all_eq_true.mpr fun c hc => ?_
  have h := List.all_eq_true.mp h1 c hc
  rcases Bool.eq_false_or_eq_true (isCode c) with hi | hi
  · exact h2 c (List.mem_filter.mpr ⟨hc, hi⟩)
  · simpa [hi] using h
set_option maxRecDepth 65536 in
theorem w_c0 : (Jvm.Cond.code x code maxLocals ret).before args0 about1 = true := code_word (m := ⟨1, 1⟩) (meth := k1m1) (c := k1c1) (by decide +kernel) rfl rfl rfl (by decide +kernel)
set_option maxRecDepth 65536 in
theorem w_c1 : (Jvm.Cond.code ({ cls := "com/example/ample_gap/amplegap/simulation/Update", name := "endSpeed", desc := "(DDD)D" } : Jvm.MethodName) prog_55_method_4_code (9 : Nat) (Option.some Jvm.ClassFile.FieldType.double)).before args0 about1 = true := code_word (m := ⟨6, 0⟩) (meth := k6m0) (c := k6c0) (by decide +kernel) rfl rfl rfl (by decide +kernel)
def codes1 : List Jvm.Cond := [Jvm.Cond.code x code maxLocals ret, Jvm.Cond.code ({ cls := "com/example/ample_gap/amplegap/simulation/Update", name := "endSpeed", desc := "(DDD)D" } : Jvm.MethodName) prog_55_method_4_code (9 : Nat) (Option.some Jvm.ClassFile.FieldType.double)]
set_option maxRecDepth 65536 in
theorem codes_eq : words1.filter isCode = codes1 := rfl
theorem w_codes : ∀ c ∈ words1.filter isCode, c.before args0 about1 = true := by
  rw [codes_eq]
  intro c hc
  simp only [codes1, List.mem_cons, List.not_mem_nil, or_false] at hc
  rcases hc with rfl | rfl
  · exact w_c0
  · exact w_c1
set_option maxRecDepth 65536 in
theorem w_t1 : words1.all (fun c => isCode c || c.before args0 about1) = true := by decide +kernel
theorem w_tables : (allAtoms (Jvm.Cond.code x code maxLocals ret :: tables_1)).before args0 about1 = true := by
  rw [allAtoms_all]
  show words1.all (fun c => c.before args0 about1) = true
  refine all_split ?_ w_codes
  rw [w_t1]
set_option maxRecDepth 65536 in
theorem w_case : (Jvm.Cond.and given_1 narrow_1).before args0 about1 = true := by decide +kernel
theorem w_applies : (headSpec (Jvm.Cond.code x code maxLocals ret :: tables_1) room_1).applies x e0.platform about1 = true :=
  (Spec.applies_iff w_frames).mpr ⟨w_running, w_runnable, w_alone, w_named, w_hears, w_ripe, w_room, w_tables⟩
theorem atStart : AtStart classFile x code maxLocals ret World_1 tables_1 room_1 Calls_1 rest_1 Pre_1 launch0 p0 e0 about1 theMethod args0 below0 :=
  ⟨lists_1, trivial, launch0.admits_env _ _ _, launch0.least_env, fairChoices_fair.cas, fairChoices_fair.clock, w_frames, w_args, w_heap, w_applies, trivial, trivial, w_case⟩
end start1
theorem witness_1 : WitnessClaimed_1 := ⟨start1.p0, start1.e0, start1.about1, start1.theMethod, start1.args0, start1.below0, start1.atStart⟩
end Jvm.Pilot.@@N@@
