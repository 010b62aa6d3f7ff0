import JvmDerived
import JvmDerived.Pilot.@@N@@Statement
import JvmDerived.Pilot.@@N@@Code
set_option linter.unusedVariables false
set_option linter.unusedSimpArgs false
namespace Jvm.Pilot.@@N@@.Dyad
open Jvm Jvm.FP Jvm.FP.Core
/-- the exponent moved up by k -/
def sh (k : Int) : Datum → Datum
  | .nan => .nan
  | .inf s => .inf s
  | .fin s c q => .fin s c (q + k)
theorem sh_prod (k l : Int) (x y : Datum) : exactProduct (sh k x) (sh l y) = sh (k + l) (exactProduct x y) := by
  cases x <;> cases y <;> simp only [sh, exactProduct]
  · split <;> rfl
  · split <;> rfl
  · rw [show ∀ q r : Int, q + k + (r + l) = q + r + (k + l) from fun q r => by omega]
theorem inUnits_sh (c : Nat) (q e k : Int) : inUnits c (q + k) (e + k) = inUnits c q e := by
  unfold inUnits; rw [show q + k - (e + k) = q - e by omega]
theorem min_sh (q r k : Int) : min (q + k) (r + k) = min q r + k := by omega
theorem sumUnits_sh (s : Bool) (c : Nat) (q : Int) (t : Bool) (d : Nat) (r e k : Int) : sumUnits s c (q + k) t d (r + k) (e + k) = sumUnits s c q t d r e := by
  unfold sumUnits; rw [inUnits_sh, inUnits_sh]
theorem sh_sum (k : Int) (x y : Datum) : exactSum (sh k x) (sh k y) = sh k (exactSum x y) := by
  cases x <;> cases y <;> simp only [sh, exactSum]
  · split <;> rfl
  · rw [min_sh, sumUnits_sh]
theorem sh_neg (k : Int) (x : Datum) : negate (sh k x) = sh k (negate x) := by
  cases x <;> rfl
theorem order_sh (k : Int) (x y : Datum) : order (sh k x) (sh k y) = order x y := by
  cases x <;> cases y <;> simp only [sh, order]
  rw [min_sh, inUnits_sh, inUnits_sh]
theorem sh_zero (x : Datum) : sh 0 x = x := by
  cases x <;> simp [sh]
/-- x is the number n / 2^k -/
def Dy (n k : Int) (x : UInt64) : Prop := Whole n (sh k (val64 x))
theorem Dy.fin {n k : Int} {x : UInt64} (h : Dy n k x) : ∃ s c q, val64 x = .fin s c q ∧ Whole n (.fin s c (q + k)) := by
  unfold Dy at h
  cases hx : val64 x with
  | nan => rw [hx] at h; exact h.elim
  | inf s => rw [hx] at h; exact h.elim
  | fin s c q => rw [hx] at h; exact ⟨s, c, q, rfl, h⟩
theorem Dy.ne_nan {n k : Int} {x : UInt64} (h : Dy n k x) : val64 x ≠ .nan := by
  obtain ⟨s, c, q, e, -⟩ := h.fin; rw [e]; exact Datum.noConfusion
theorem Dy.no {n k : Int} {x : UInt64} (h : Dy n k x) : Jvm.Free.Fl.NoNaN64 x := Jvm.Free.Fl.val64_no.mpr h.ne_nan
theorem whole_scale {n : Int} {s : Bool} {c : Nat} {a : Int} (j : Nat) : Whole n (.fin s c a) ↔ Whole (n * ((2 ^ j : Nat) : Int)) (.fin s c (a + j)) := by
  show signed s (c * 2 ^ a.toNat) = n * ((2 ^ (-a).toNat : Nat) : Int) ↔ signed s (c * 2 ^ (a + j).toNat) = n * ((2 ^ j : Nat) : Int) * ((2 ^ (-(a + j)).toNat : Nat) : Int)
  have e : (a + j).toNat + (-a).toNat = a.toNat + (j + (-(a + j)).toNat) := by omega
  have p : ((2 ^ (-a).toNat : Nat) : Int) ≠ 0 := by have := Nat.two_pow_pos (-a).toNat; omega
  have p2 : ((2 ^ j : Nat) : Int) ≠ 0 := by have := Nat.two_pow_pos j; omega
  have p3 : ((2 ^ (-(a + j)).toNat : Nat) : Int) ≠ 0 := by have := Nat.two_pow_pos (-(a + j)).toNat; omega
  rw [signed_mul, signed_mul]
  have e2 : ((2 ^ (a + j).toNat : Nat) : Int) * ((2 ^ (-a).toNat : Nat) : Int) = ((2 ^ a.toNat : Nat) : Int) * (((2 ^ j : Nat) : Int) * ((2 ^ (-(a + j)).toNat : Nat) : Int)) := by
    rw [← Int.natCast_mul, ← Int.natCast_mul, ← Int.natCast_mul, ← Nat.pow_add, ← Nat.pow_add, ← Nat.pow_add, e]
  generalize signed s c = v
  generalize ((2 ^ (a + j).toNat : Nat) : Int) = P at e2 ⊢
  generalize ((2 ^ (-a).toNat : Nat) : Int) = M at p e2 ⊢
  generalize ((2 ^ a.toNat : Nat) : Int) = A at e2 ⊢
  generalize ((2 ^ j : Nat) : Int) = J at p2 e2 ⊢
  generalize ((2 ^ (-(a + j)).toNat : Nat) : Int) = N at p3 e2 ⊢
  have q1 : v * P * M = v * A * (J * N) := by
    calc v * P * M = v * (P * M) := Int.mul_assoc _ _ _
      _ = v * (A * (J * N)) := by rw [e2]
      _ = v * A * (J * N) := (Int.mul_assoc _ _ _).symm
  have q2 : n * J * N * M = n * M * (J * N) := by simp only [Int.mul_assoc, Int.mul_comm, Int.mul_left_comm]
  constructor
  · intro h
    apply Int.eq_of_mul_eq_mul_right p
    rw [q1, h, q2]
  · intro h
    apply Int.eq_of_mul_eq_mul_right (Int.mul_ne_zero p2 p3)
    rw [← q1, h, q2]
theorem Dy.scale {n k : Int} {x : UInt64} (j : Nat) : Dy n k x ↔ Dy (n * ((2 ^ j : Nat) : Int)) (k + j) x := by
  unfold Dy
  cases val64 x with
  | nan => exact Iff.rfl
  | inf s => exact Iff.rfl
  | fin s c q =>
    show Whole _ (.fin s c (q + k)) ↔ Whole _ (.fin s c (q + (k + j)))
    rw [show q + (k + (j : Int)) = q + k + j by omega]
    exact whole_scale j
theorem Dy.cast {n m k : Int} {x : UInt64} (h : Dy n k x) (e : n = m) : Dy m k x := e ▸ h
theorem Dy.up {n m k l : Int} {x : UInt64} (h : Dy n k x) (j : Nat) (hl : k + j = l) (e : n * ((2 ^ j : Nat) : Int) = m) : Dy m l x := by subst hl e; exact (Dy.scale j).mp h
theorem Dy.down {n m k l : Int} {x : UInt64} (h : Dy n k x) (j : Nat) (hl : l + j = k) (e : m * ((2 ^ j : Nat) : Int) = n) : Dy m l x := by subst hl e; exact (Dy.scale j).mpr h
theorem Dy.i2d (a : Int32) : Dy a.toInt 0 (FP.i2d a) := by
  unfold Dy; rw [sh_zero]; exact i2d_int a
theorem Dy.l2d {a : Int64} (h : a.toInt.natAbs ≤ 2 ^ 53) : Dy a.toInt 0 (FP.l2d a) := by
  unfold Dy; rw [sh_zero]; exact l2d_int h
theorem Dy.lit {n : Int64} {x : UInt64} {m : Int} (h : x = FP.l2d n) (e : n.toInt = m) (b : m.natAbs ≤ 2 ^ 53) : Dy m 0 x := by
  subst h e; exact Dy.l2d b
theorem Dy.cmp {n m k : Int} {x y : UInt64} (hx : Dy n k x) (hy : Dy m k y) : FP.dcmp x y = some (compare n m) := by
  show order (val64 x) (val64 y) = _
  rw [← order_sh k]; exact order_whole hx hy
theorem compare_lt {n m : Int} (h : n < m) : compare n m = .lt := (compare_lt_iff n m).mpr h
theorem compare_eq {n m : Int} (h : n = m) : compare n m = .eq := (compare_eq_iff n m).mpr h
theorem compare_gt {n m : Int} (h : m < n) : compare n m = .gt := by
  rw [compare_swap_int, compare_lt h]; rfl
theorem Dy.lt {n m k : Int} {x y : UInt64} (hx : Dy n k x) (hy : Dy m k y) (h : n < m) (o : Jvm.ClassFile.CmpOp) : Op.cmpValue (FP.dcmp x y) o = -1 := by rw [hx.cmp hy, compare_lt h]; rfl
theorem Dy.eq {n m k : Int} {x y : UInt64} (hx : Dy n k x) (hy : Dy m k y) (h : n = m) (o : Jvm.ClassFile.CmpOp) : Op.cmpValue (FP.dcmp x y) o = 0 := by rw [hx.cmp hy, compare_eq h]; rfl
theorem Dy.gt {n m k : Int} {x y : UInt64} (hx : Dy n k x) (hy : Dy m k y) (h : m < n) (o : Jvm.ClassFile.CmpOp) : Op.cmpValue (FP.dcmp x y) o = 1 := by rw [hx.cmp hy, compare_gt h]; rfl
theorem signed_natAbs {n : Int} {s : Bool} (h : n ≠ 0 → s = decide (n < 0)) : signed s n.natAbs = n := by
  by_cases h0 : n = 0
  · subst h0; exact signed_zero s
  · rw [h h0]; unfold signed
    by_cases q : n < 0
    · simp [q]; omega
    · simp [q]; omega
/-- a number of 53 digits is held exactly -/
theorem round_dy {n k : Int} {d : Datum} (h : Whole n (sh k d)) (hn : n.natAbs < 2 ^ 53) (hk : -900 ≤ k ∧ k ≤ 1000) : Whole n (sh k (round b64 d)) := by
  cases d with
  | nan => exact h.elim
  | inf s => exact h.elim
  | fin s c q =>
    have h1 : Whole n (.fin s c (q + k)) := h
    have e : round b64 (.fin s c q) = round b64 (.fin s n.natAbs (-k)) := by
      show roundRatio b64 s c 1 q = roundRatio b64 s n.natAbs 1 (-k)
      refine roundRatio_congr (by decide) (by decide) ?_
      have := whole_natAbs h1
      rw [Nat.mul_one, Nat.mul_one, show q - -k = q + k by omega, show -k - q = -(q + k) by omega]
      exact this
    have hq : b64.qmin = -1074 := qmin_b64
    have hp : b64.p = 53 := rfl
    obtain ⟨c', q', e1, e2⟩ := round_exact good_b64 s (c := n.natAbs) (q := -k) (by rw [hp]; exact hn) (by rw [hq]; omega) (by rw [show b64.qmax = 971 by decide]; omega)
    rw [e, e1]
    have hf := round_fits good_b64 (.fin s n.natAbs (-k))
    rw [e1] at hf
    have hq' : -1074 ≤ q' := hq ▸ hf.2.1
    unfold inUnits at e2
    rw [hq] at e2
    show signed s (c' * 2 ^ (q' + k).toNat) = n * ((2 ^ (-(q' + k)).toNat : Nat) : Int)
    have key : c' * 2 ^ (q' + k).toNat = n.natAbs * 2 ^ (-(q' + k)).toNat := by
      have e3 : (q' + k).toNat + (-k - -1074).toNat = (q' - -1074).toNat + (-(q' + k)).toNat := by omega
      apply Nat.eq_of_mul_eq_mul_right (Nat.two_pow_pos (-k - -1074).toNat)
      rw [Nat.mul_assoc, ← Nat.pow_add, e3, Nat.pow_add, ← Nat.mul_assoc, e2]
      simp only [Nat.mul_assoc, Nat.mul_comm, Nat.mul_left_comm]
    rw [key, signed_mul, signed_natAbs (fun h0 => whole_sign h1 h0)]
theorem Dy.mul {n m k l : Int} {x y : UInt64} (hx : Dy n k x) (hy : Dy m l y) (hb : (n * m).natAbs < 2 ^ 53) (hk : -900 ≤ k + l ∧ k + l ≤ 1000) : Dy (n * m) (k + l) (FP.dmul x y) := by
  unfold Dy
  rw [show val64 (FP.dmul x y) = _ from val64_dmul x y]
  refine round_dy ?_ hb hk
  rw [← sh_prod]
  exact whole_product hx hy
theorem Dy.add {n m k : Int} {x y : UInt64} (hx : Dy n k x) (hy : Dy m k y) (hb : (n + m).natAbs < 2 ^ 53) (hk : -900 ≤ k ∧ k ≤ 1000) : Dy (n + m) k (FP.dadd x y) := by
  unfold Dy
  rw [show val64 (FP.dadd x y) = _ from val64_dadd x y]
  refine round_dy ?_ hb hk
  rw [← sh_sum]
  exact whole_sum hx hy
theorem Dy.sub {n m k : Int} {x y : UInt64} (hx : Dy n k x) (hy : Dy m k y) (hb : (n - m).natAbs < 2 ^ 53) (hk : -900 ≤ k ∧ k ≤ 1000) : Dy (n - m) k (FP.dsub x y) := by
  unfold Dy
  rw [show val64 (FP.dsub x y) = _ from val64_dsub x y]
  refine round_dy ?_ hb hk
  rw [← sh_sum, ← sh_neg, Int.sub_eq_add_neg]
  exact whole_sum hx (whole_negate hy)
/-- the quotient's rounding, by the values alone -/
theorem Dy.quot {n m k l : Int} {x y : UInt64} (hx : Dy n k x) (hy : Dy m l y) (hm : m ≠ 0) : ∃ s, val64 (FP.ddiv x y) = roundRatio b64 s n.natAbs m.natAbs (l - k) ∧ (n ≠ 0 → s = (decide (n < 0) != decide (m < 0))) := by
  obtain ⟨s, c, q, ex, wx⟩ := hx.fin
  obtain ⟨t, d, r, ey, wy⟩ := hy.fin
  have hd : d ≠ 0 := fun z => hm ((whole_zero wy).mp z)
  refine ⟨s != t, ?_, fun h0 => by rw [whole_sign wx h0, whole_sign wy hm]⟩
  rw [show val64 (FP.ddiv x y) = _ from val64_ddiv x y, ex, ey]
  simp only [quotient, if_neg hd]
  refine roundRatio_congr (Nat.pos_of_ne_zero hd) (by omega) ?_
  have e1 := whole_natAbs wx
  have e2 := whole_natAbs wy
  have e3 : (q - r - (l - k)).toNat + ((-(q + k)).toNat + (r + l).toNat) = (l - k - (q - r)).toNat + ((q + k).toNat + (-(r + l)).toNat) := by omega
  apply Nat.eq_of_mul_eq_mul_right (Nat.two_pow_pos ((-(q + k)).toNat + (r + l).toNat))
  rw [Nat.mul_assoc, ← Nat.pow_add, e3, Nat.pow_add, Nat.pow_add, Nat.pow_add]
  generalize 2 ^ (l - k - (q - r)).toNat = P
  generalize 2 ^ (q + k).toNat = A at *
  generalize 2 ^ (-(q + k)).toNat = A' at *
  generalize 2 ^ (r + l).toNat = B at *
  generalize 2 ^ (-(r + l)).toNat = B' at *
  calc c * m.natAbs * (P * (A * B')) = (c * A) * (m.natAbs * B') * P := by simp only [Nat.mul_assoc, Nat.mul_comm, Nat.mul_left_comm]
    _ = (n.natAbs * A') * (d * B) * P := by rw [e1, e2]
    _ = n.natAbs * d * P * (A' * B) := by simp only [Nat.mul_assoc, Nat.mul_comm, Nat.mul_left_comm]
theorem sgn_of_quot {n m j : Int} {a b c : Nat} (ha : 0 < a) (hb : 0 < b) (hm : m ≠ 0) (h : n * (a : Int) = j * m * (b : Int)) (hj : j ≠ 0) : (n ≠ 0) ∧ decide (j < 0) = (decide (n < 0) != decide (m < 0)) := by
  have hn : n ≠ 0 := by
    intro z; rw [z, Int.zero_mul] at h
    have := Int.mul_eq_zero.mp h.symm
    rcases this with q | q
    · rcases Int.mul_eq_zero.mp q with q | q
      · exact hj q
      · exact hm q
    · omega
  refine ⟨hn, ?_⟩
  have ha' : (0 : Int) < a := by omega
  have hb' : (0 : Int) < b := by omega
  rcases Int.lt_or_gt_of_ne hj with q | q <;> rcases Int.lt_or_gt_of_ne hm with r | r <;> rcases Int.lt_or_gt_of_ne hn with t | t
  all_goals first
    | (simp [q, r, t]; done)
    | (simp [q, r, t, Int.not_lt.mpr (Int.le_of_lt q), Int.not_lt.mpr (Int.le_of_lt r), Int.not_lt.mpr (Int.le_of_lt t)]; done)
    | (simp [q, r, t, Int.not_lt.mpr (Int.le_of_lt q), Int.not_lt.mpr (Int.le_of_lt r)]; done)
    | (simp [q, r, t, Int.not_lt.mpr (Int.le_of_lt q), Int.not_lt.mpr (Int.le_of_lt t)]; done)
    | (simp [q, r, t, Int.not_lt.mpr (Int.le_of_lt r), Int.not_lt.mpr (Int.le_of_lt t)]; done)
    | (simp [q, r, t, Int.not_lt.mpr (Int.le_of_lt q)]; done)
    | (simp [q, r, t, Int.not_lt.mpr (Int.le_of_lt r)]; done)
    | (simp [q, r, t, Int.not_lt.mpr (Int.le_of_lt t)]; done)
    | (exfalso
       have s1 : n * (a : Int) < 0 ∨ 0 < n * (a : Int) := by
         rcases Int.lt_or_gt_of_ne hn with t | t
         · exact Or.inl (Int.mul_neg_of_neg_of_pos t ha')
         · exact Or.inr (Int.mul_pos t ha')
       first
       | (have u := Int.mul_neg_of_neg_of_pos (Int.mul_neg_of_neg_of_pos q r) hb'; have v := Int.mul_pos t ha'; omega)
       | (have u := Int.mul_neg_of_neg_of_pos (Int.mul_neg_of_pos_of_neg q r) hb'; have v := Int.mul_pos t ha'; omega)
       | (have u := Int.mul_pos (Int.mul_pos q r) hb'; have v := Int.mul_neg_of_neg_of_pos t ha'; omega)
       | (have u := Int.mul_pos (Int.mul_pos_of_neg_of_neg q r) hb'; have v := Int.mul_neg_of_neg_of_pos t ha'; omega))
/-- an exact quotient: x / y = j / 2^i -/
theorem Dy.div {n m j k l i : Int} {x y : UInt64} (u v : Nat) (hx : Dy n k x) (hy : Dy m l y) (hm : m ≠ 0) (huv : (u : Int) - v = l + i - k) (hv : n * ((2 ^ u : Nat) : Int) = j * m * ((2 ^ v : Nat) : Int)) (hj : j.natAbs < 2 ^ 53) (hi : -900 ≤ i ∧ i ≤ 1000) : Dy j i (FP.ddiv x y) := by
  obtain ⟨s, e, hs⟩ := hx.quot hy hm
  unfold Dy
  rw [e]
  have hva : n.natAbs * 2 ^ u = j.natAbs * m.natAbs * 2 ^ v := by
    have := congrArg Int.natAbs hv
    rw [Int.natAbs_mul, Int.natAbs_mul, Int.natAbs_mul, Int.natAbs_natCast, Int.natAbs_natCast] at this
    exact this
  have e2 : roundRatio b64 s n.natAbs m.natAbs (l - k) = round b64 (.fin s j.natAbs (-i)) := by
    show _ = roundRatio b64 s j.natAbs 1 (-i)
    refine roundRatio_congr (by omega) (by decide) ?_
    rw [Nat.mul_one]
    have e3 : (l - k - -i).toNat + v = (-i - (l - k)).toNat + u := by omega
    apply Nat.eq_of_mul_eq_mul_right (Nat.two_pow_pos v)
    rw [Nat.mul_assoc, ← Nat.pow_add, e3, Nat.pow_add]
    generalize 2 ^ (-i - (l - k)).toNat = W
    calc n.natAbs * (W * 2 ^ u) = (n.natAbs * 2 ^ u) * W := by simp only [Nat.mul_assoc, Nat.mul_comm, Nat.mul_left_comm]
      _ = j.natAbs * m.natAbs * 2 ^ v * W := by rw [hva]
      _ = j.natAbs * m.natAbs * W * 2 ^ v := by simp only [Nat.mul_assoc, Nat.mul_comm, Nat.mul_left_comm]
  rw [e2]
  refine round_dy ?_ hj hi
  show signed s (j.natAbs * 2 ^ (-i + i).toNat) = j * ((2 ^ (-(-i + i)).toNat : Nat) : Int)
  rw [show (-i + i) = 0 by omega]
  simp only [Int.toNat_zero, Nat.pow_zero, Nat.mul_one, Int.neg_zero, Int.natCast_one, Int.mul_one]
  refine signed_natAbs fun h0 => ?_
  obtain ⟨hn, hsg⟩ := sgn_of_quot (c := 0) (Nat.two_pow_pos u) (Nat.two_pow_pos v) hm hv h0
  rw [hs hn, hsg]
end Jvm.Pilot.@@N@@.Dyad
namespace Jvm.Pilot.@@N@@.Dyad
open Jvm Jvm.FP Jvm.FP.Core
theorem Dy.of_fin {x : UInt64} {s : Bool} {c : Nat} {q : Int} (h : val64 x = .fin s c q) : Dy (signed s c) (-q) x := by
  unfold Dy; rw [h]
  show signed s (c * 2 ^ (q + -q).toNat) = signed s c * ((2 ^ (-(q + -q)).toNat : Nat) : Int)
  rw [show q + -q = 0 by omega]; simp
theorem Dy.of_zero {x : UInt64} {s : Bool} {q : Int} (h : val64 x = .fin s 0 q) (k : Int) : Dy 0 k x := by
  unfold Dy; rw [h]
  show signed s (0 * 2 ^ (q + k).toNat) = 0 * ((2 ^ (-(q + k)).toNat : Nat) : Int)
  rw [Nat.zero_mul, signed_zero, Int.zero_mul]
theorem l2d_form (v : Int64) (h : v.toInt ≠ 0) : ∃ s c q, val64 (FP.l2d v) = .fin s c q ∧ c ≠ 0 ∧ c < 2 ^ 53 ∧ -60 ≤ q ∧ q ≤ 20 := by
  have hm := l2d_mag v
  have hb := (l2d_big h).1
  have hE : fieldE b64 (FP.l2d v).toNat = ((FP.l2d v).toNat % 2 ^ 63) / 2 ^ 52 := by rw [fieldE_mag, mag_toNat64, tails_b64]
  have hE1 : 1023 ≤ fieldE b64 (FP.l2d v).toNat := by rw [hE]; exact (Nat.le_div_iff_mul_le (by decide)).mpr hb
  have hE2 : fieldE b64 (FP.l2d v).toNat < 1088 := by rw [hE]; exact (Nat.div_lt_iff_lt_mul (by decide)).mpr hm
  have hx : b64.exps - 1 = 2047 := exps_b64
  have ht : fieldT b64 (FP.l2d v).toNat < b64.tails := fieldT_lt _ _
  rw [tails_b64] at ht
  refine ⟨fieldS b64 (FP.l2d v).toNat, b64.tails + fieldT b64 (FP.l2d v).toNat, b64.qmin + ((fieldE b64 (FP.l2d v).toNat : Int) - 1), ?_, ?_, ?_, ?_, ?_⟩
  · show decode b64 (FP.l2d v).toNat = _
    unfold decode
    rw [if_neg (by omega), if_neg (by omega)]
  · rw [tails_b64]; omega
  · rw [tails_b64]; omega
  · rw [qmin_b64]; omega
  · rw [qmin_b64]; omega
/-- equal quotients of equal values -/
theorem quot_eq {n m k l n' m' k' l' : Int} {x y x' y' : UInt64} (hx : Dy n k x) (hy : Dy m l y) (hx' : Dy n' k' x') (hy' : Dy m' l' y') (hm : m ≠ 0) (en : n' = n) (em : m' = m) (ek : l' - k' = l - k) (o : Jvm.ClassFile.CmpOp) : Op.cmpValue (FP.dcmp (FP.ddiv x y) (FP.ddiv x' y')) o = 0 := by
  subst en em
  obtain ⟨s, e, hs⟩ := hx.quot hy hm
  obtain ⟨s', e', hs'⟩ := hx'.quot hy' hm
  by_cases h0 : n' = 0
  · subst h0
    have z : ∀ (s : Bool) (B : Nat) (q : Int), roundRatio b64 s (0 : Int).natAbs B q = .fin s 0 b64.qmin := fun s B q => by unfold roundRatio; exact if_pos rfl
    rw [z] at e e'
    exact (Dy.of_zero e 0).eq (Dy.of_zero e' 0) rfl o
  · have : val64 (FP.ddiv x y) = val64 (FP.ddiv x' y') := by rw [e, e', hs h0, hs' h0, ek]
    have e2 : FP.dcmp (FP.ddiv x y) (FP.ddiv x' y') = some .eq := by
      show order (val64 _) (val64 _) = _
      rw [← this]; exact order_self (by rw [e]; exact roundRatio_ne_nan _ _ _ _ _)
    rw [e2]; rfl
theorem quot_no {n m k l : Int} {x y : UInt64} (hx : Dy n k x) (hy : Dy m l y) (hm : m ≠ 0) : Jvm.Free.Fl.NoNaN64 (FP.ddiv x y) := by
  obtain ⟨s, e, -⟩ := hx.quot hy hm
  exact Jvm.Free.Fl.val64_no.mpr (by rw [e]; exact roundRatio_ne_nan _ _ _ _ _)
theorem dy0 : Dy 0 0 FP.dconst0 := Dy.lit (n := 0) (by decide +kernel) rfl (by decide)
theorem dy1 : Dy 1 0 FP.dconst1 := Dy.lit (n := 1) (by decide +kernel) rfl (by decide)
theorem dy4 : Dy 4 0 (4616189618054758400 : UInt64) := Dy.lit (n := 4) (by decide +kernel) rfl (by decide)
theorem dy8 : Dy 8 0 (4620693217682128896 : UInt64) := Dy.lit (n := 8) (by decide +kernel) rfl (by decide)
theorem dy1024 : Dy 1024 0 (4652218415073722368 : UInt64) := Dy.lit (n := 1024) (by decide +kernel) rfl (by decide)
/-- a whole number over a power of two -/
theorem div8 {x : UInt64} {n : Int} (h : Dy n 0 x) (hn : n.natAbs < 2 ^ 53) : Dy n 3 (FP.ddiv x (4620693217682128896 : UInt64)) := h.div 3 0 dy8 (by decide) (by decide) (by omega) hn (by decide)
theorem div4 {x : UInt64} {n : Int} (h : Dy n 0 x) (hn : n.natAbs < 2 ^ 53) : Dy n 2 (FP.ddiv x (4616189618054758400 : UInt64)) := h.div 2 0 dy4 (by decide) (by decide) (by omega) hn (by decide)
theorem div1024 {x : UInt64} {n : Int} (h : Dy n 0 x) (hn : n.natAbs < 2 ^ 53) : Dy n 10 (FP.ddiv x (4652218415073722368 : UInt64)) := h.div 10 0 dy1024 (by decide) (by decide) (by omega) hn (by decide)
theorem i32_53 (a : Int32) : a.toInt.natAbs < 2 ^ 53 := by have := RoadKit.rng32 a; omega
end Jvm.Pilot.@@N@@.Dyad
namespace Jvm.Pilot.@@N@@.Dyad
open Jvm Jvm.FP Jvm.FP.Core
/-- (long) x of a number that is not below nought -/
theorem Dy.d2l {n : Int} {k : Nat} {x : UInt64} (h : Dy n k x) (hn : 0 ≤ n) (P : Int) (hP : P = ((2 ^ k : Nat) : Int)) (hb : n / P < 9223372036854775808) : (FP.d2l x).toInt = n / P := by
  subst hP
  obtain ⟨s, c, q, e, w⟩ := h.fin
  have hw := whole_natAbs w
  have e1 : c * 2 ^ q.toNat / 2 ^ (-q).toNat = n.natAbs / 2 ^ k := by
    have e3 : q.toNat + k + (-(q + k)).toNat = (-q).toNat + (q + k).toNat := by omega
    have e4 : c * 2 ^ q.toNat * 2 ^ k = n.natAbs * 2 ^ (-q).toNat := by
      apply Nat.eq_of_mul_eq_mul_right (Nat.two_pow_pos (q + k).toNat)
      calc c * 2 ^ q.toNat * 2 ^ k * 2 ^ (q + k).toNat = (c * 2 ^ (q + k).toNat) * (2 ^ q.toNat * 2 ^ k) := by simp only [Nat.mul_assoc, Nat.mul_comm, Nat.mul_left_comm]
        _ = (n.natAbs * 2 ^ (-(q + k)).toNat) * (2 ^ q.toNat * 2 ^ k) := by rw [hw]
        _ = n.natAbs * (2 ^ (q.toNat + k + (-(q + k)).toNat)) := by rw [Nat.pow_add, Nat.pow_add]; simp only [Nat.mul_assoc, Nat.mul_comm, Nat.mul_left_comm]
        _ = n.natAbs * (2 ^ ((-q).toNat + (q + k).toNat)) := by rw [e3]
        _ = n.natAbs * 2 ^ (-q).toNat * 2 ^ (q + k).toNat := by rw [Nat.pow_add, Nat.mul_assoc]
    have p1 := Nat.two_pow_pos k
    have p2 := Nat.two_pow_pos (-q).toNat
    calc c * 2 ^ q.toNat / 2 ^ (-q).toNat = c * 2 ^ q.toNat * 2 ^ k / (2 ^ (-q).toNat * 2 ^ k) := (Nat.mul_div_mul_right _ _ p1).symm
      _ = n.natAbs * 2 ^ (-q).toNat / (2 ^ k * 2 ^ (-q).toNat) := by rw [e4, Nat.mul_comm (2 ^ (-q).toNat)]
      _ = n.natAbs / 2 ^ k := Nat.mul_div_mul_right _ _ p2
  have e2 : truncate s c q = n / ((2 ^ k : Nat) : Int) := by
    unfold truncate
    rw [e1]
    have e5 : ((n.natAbs / 2 ^ k : Nat) : Int) = n / ((2 ^ k : Nat) : Int) := by rw [Int.natCast_ediv, Int.natAbs_of_nonneg hn]
    by_cases h0 : n = 0
    · subst h0; rw [show (0 : Int).natAbs = 0 from rfl, Nat.zero_div, signed_zero, Int.zero_ediv]
    · rw [whole_sign w h0, decide_eq_false (by omega : ¬ n < 0)]; exact e5
  have h0 : 0 ≤ n / ((2 ^ k : Nat) : Int) := Int.ediv_nonneg hn (Int.natCast_nonneg _)
  show (toL (val64 x)).toInt = _
  rw [e]
  show (Int64.ofInt (max (-2 ^ 63) (min (2 ^ 63 - 1) (truncate s c q)))).toInt = _
  rw [e2]
  generalize n / ((2 ^ k : Nat) : Int) = D at *
  rw [show max (-2 ^ 63) (min (2 ^ 63 - 1) D) = D by omega]
  exact Int64.toInt_ofInt_of_le (by omega) (by omega)
end Jvm.Pilot.@@N@@.Dyad
namespace Jvm.Pilot.@@N@@
open Jvm Jvm.ClassFile Sem Op Lib Jvm.Free Jvm.Stand Jvm.LawKit Jvm.RoadKit Bundle Jvm.Pilot.@@N@@.Jvm.D
def own_K (p : Program) (e : Env) (below : List Frame) (A B : State) : Prop := ∀ t, Steps p.tables e below A t → Steps p.tables e below B t
theorem own_ifT_eq {x : Int32} (h : x = 0) : ifCond.holds .eq x = true := by simp [ifCond.holds, h]
theorem own_ifF_eq {x : Int32} (h : ¬ x = 0) : ifCond.holds .eq x = false := by simp [ifCond.holds, h]
theorem own_ifT_ne {x : Int32} (h : ¬ x = 0) : ifCond.holds .ne x = true := by simp [ifCond.holds, h]
theorem own_ifF_ne {x : Int32} (h : x = 0) : ifCond.holds .ne x = false := by simp [ifCond.holds, h]
theorem own_ifT_lt {x : Int32} (h : x < 0) : ifCond.holds .lt x = true := by simp [ifCond.holds, h]
theorem own_ifF_lt {x : Int32} (h : ¬ x < 0) : ifCond.holds .lt x = false := by simp [ifCond.holds, h]
theorem own_ifT_ge {x : Int32} (h : ¬ x < 0) : ifCond.holds .ge x = true := by simp [ifCond.holds, Int32.not_lt.mp h]
theorem own_ifF_ge {x : Int32} (h : x < 0) : ifCond.holds .ge x = false := by simp [ifCond.holds, Int32.not_le.mpr h]
theorem own_ifT_gt {x : Int32} (h : 0 < x) : ifCond.holds .gt x = true := by simp [ifCond.holds, h]
theorem own_ifF_gt {x : Int32} (h : ¬ 0 < x) : ifCond.holds .gt x = false := by simp [ifCond.holds, h]
theorem own_ifT_le {x : Int32} (h : ¬ 0 < x) : ifCond.holds .le x = true := by simp [ifCond.holds, Int32.not_lt.mp h]
theorem own_ifF_le {x : Int32} (h : 0 < x) : ifCond.holds .le x = false := by simp [ifCond.holds, Int32.not_le.mpr h]
theorem own_icT_eq {x y : Int32} (h : x = y) : if_icmp.holds .eq x y = true := by simp [if_icmp.holds, h]
theorem own_icF_eq {x y : Int32} (h : ¬ x = y) : if_icmp.holds .eq x y = false := by simp [if_icmp.holds, h]
theorem own_icT_ne {x y : Int32} (h : ¬ x = y) : if_icmp.holds .ne x y = true := by simp [if_icmp.holds, h]
theorem own_icF_ne {x y : Int32} (h : x = y) : if_icmp.holds .ne x y = false := by simp [if_icmp.holds, h]
theorem own_icT_lt {x y : Int32} (h : x < y) : if_icmp.holds .lt x y = true := by simp [if_icmp.holds, h]
theorem own_icF_lt {x y : Int32} (h : ¬ x < y) : if_icmp.holds .lt x y = false := by simp [if_icmp.holds, h]
theorem own_icT_ge {x y : Int32} (h : ¬ x < y) : if_icmp.holds .ge x y = true := by simp [if_icmp.holds, Int32.not_lt.mp h]
theorem own_icF_ge {x y : Int32} (h : x < y) : if_icmp.holds .ge x y = false := by simp [if_icmp.holds, Int32.not_le.mpr h]
theorem own_icT_gt {x y : Int32} (h : y < x) : if_icmp.holds .gt x y = true := by simp [if_icmp.holds, h]
theorem own_icF_gt {x y : Int32} (h : ¬ y < x) : if_icmp.holds .gt x y = false := by simp [if_icmp.holds, h]
theorem own_icT_le {x y : Int32} (h : ¬ y < x) : if_icmp.holds .le x y = true := by simp [if_icmp.holds, Int32.not_lt.mp h]
theorem own_icF_le {x y : Int32} (h : y < x) : if_icmp.holds .le x y = false := by simp [if_icmp.holds, Int32.not_le.mpr h]
theorem own_from {p : Program} {e : Env} {below : List Frame} {A B t : State} (h : B = A) (q : Steps p.tables e below B t) : Steps p.tables e below A t := h ▸ q
abbrev rO (f c s l : Nat) : Room := { frames := f, cells := c, slots := s, locals := l }
abbrev own_Met (l : Launch) (y : MethodName) (code : ByteArray) (ml : Nat) (ret : Option FieldType) (ws : List Jvm.Cond) (rm : Room) (as' : Array Value) (Z : State) (h0 : Heap) (Q : Option Value → Heap → List Loc → Prop) : Prop :=
  MetFree l y (head1 (Jvm.Cond.code y code ml ret :: ws) rm) (fun ar_ U => ar_ = as' ∧ Z.Warmed39 U.vm ∧ U.heap = h0) (fun _ _ _ _ _ => True) (fun _ U o U' => ∃ v L, o = .returned v ∧ Q v U'.heap L ∧ FrameEnd U o U' L rm.cells rm.slots)
theorem own_InsKeep {Z : State} {h h' : Heap} {b : Addr} {C : String} {bo : Bool} {ws : List Addr} (F : Ins Z h b C bo) (K : Keep h h' ws) (q : b ∉ ws) : Ins Z h' b C bo := by obtain ⟨cell, k, h1, r⟩ := F; exact ⟨cell, k, K.2.1 _ _ h1 q, r⟩
theorem wT {Z : State} {a0 : Array Value} (hw : ∀ d ∈ tables_1, d.before a0 Z = true) (i : Nat) {d : Jvm.Cond} (h : tables_1[i]? = some d) : d.before a0 Z = true := hw d (List.mem_of_getElem? h)
theorem own_mvNest {Z s : State} {a0 args : Array Value} {own host : String} {index : Nat} {y : MethodName} (hZ : Z.Warmed39 s.vm) (w : (Cond.methodLinkNest own index y host).before a0 Z = true) : (Cond.methodLinkNest own index y host).before args s = true := (Cond.methodLinkNest_wide hZ w :)
theorem own_pop2 {tb : Tables} [Ours tb] {e : Env} {below : List Frame} {T target : State} {m : MethodId} {c : Code} {g : JFrame} (h : At T m c below) (hx : tb.exec = Jvm.exec) (hg : g.method = m) {x : UInt64} {rest : List Value} (hd : decode c.code g.pc = .ok (.pop2, 1)) (hs : g.stack = .double x :: rest)
    (hr : Steps tb e below (T.setTop { g with pc := g.pc + 1, stack := rest }) target) : Steps tb e below (T.setTop g) target := by
  subst hg
  jvm_step h [h.top, hx, hd, hs, Value.category]
  exact hr
open Jvm.Pilot.@@N@@.Dyad
open Jvm.Free.Fl (i2d_fin Fin64)
abbrev own_len (a : Int32) : Int32 := ((a &&& (1023 : Int32)) + (1 : Int32))
theorem own_len_rng (a : Int32) : 1 ≤ (own_len a).toInt ∧ (own_len a).toInt ≤ 1024 := by
  have h1 := c_mask a (1023 : Int32) 10 (by decide) (by decide)
  have h3 := c_iadd (a &&& (1023 : Int32)) (1 : Int32)
  have h4 := rng32 ((a &&& (1023 : Int32)) + (1 : Int32))
  rw [h1, show (1 : Int32).toInt = 1 from rfl] at h3
  unfold own_len; omega
theorem own_ne0 {x : Int32} (h : 1 ≤ x.toInt) : x ≠ 0 := fun q => by rw [q] at h; exact absurd h (by decide)
theorem own_len_ne (a : Int32) : own_len a ≠ 0 := own_ne0 (own_len_rng a).1
theorem own_msk31 (x : Int32) : 0 ≤ (x &&& (2147483647 : Int32)).toInt ∧ (x &&& (2147483647 : Int32)).toInt < 2147483648 := by
  have h1 := c_mask x (2147483647 : Int32) 31 (by decide) (by decide)
  rw [h1]; omega
abbrev own_st (a b : Int32) : Int32 := ((b &&& (2147483647 : Int32)) % own_len a)
theorem own_st_rng (a b : Int32) : 0 ≤ (own_st a b).toInt ∧ (own_st a b).toInt < (own_len a).toInt := by
  have h := own_len_rng a
  have := ((c_iremV (b &&& (2147483647 : Int32)) (own_len a)).1 (own_msk31 b).1 (by omega))
  exact ⟨this.1, this.2.1⟩
theorem own_ls (a b : Int32) : (own_len a - own_st a b).toInt = (own_len a).toInt - (own_st a b).toInt := by
  have h1 := own_len_rng a
  have h2 := own_st_rng a b
  have h3 := c_isub (own_len a) (own_st a b)
  have h4 := rng32 (own_len a - own_st a b)
  omega
theorem own_ls_ne (a b : Int32) : (own_len a - own_st a b) ≠ 0 := own_ne0 (by have := own_ls a b; have := own_st_rng a b; omega)
abbrev own_en (a b c : Int32) : Int32 := ((own_st a b + (1 : Int32)) + ((c &&& (2147483647 : Int32)) % (own_len a - own_st a b)))
theorem own_en_rng (a b c : Int32) : (own_st a b).toInt < (own_en a b c).toInt ∧ (own_en a b c).toInt ≤ (own_len a).toInt := by
  have h1 := own_len_rng a
  have h2 := own_st_rng a b
  have h3 := own_ls a b
  have h4 := ((c_iremV (c &&& (2147483647 : Int32)) (own_len a - own_st a b)).1 (own_msk31 c).1 (by omega))
  have h5 := c_iadd (own_st a b) (1 : Int32)
  have h6 := rng32 (own_st a b + (1 : Int32))
  have h7 := c_iadd (own_st a b + (1 : Int32)) ((c &&& (2147483647 : Int32)) % (own_len a - own_st a b))
  have h8 := rng32 (own_en a b c)
  rw [show (1 : Int32).toInt = 1 from rfl] at h5
  have e5 : (own_st a b + (1 : Int32)).toInt = (own_st a b).toInt + 1 := by omega
  rw [e5] at h7
  rw [h3] at h4
  unfold own_en at *
  omega
theorem own_no (x : Int32) : Jvm.Free.Fl.NoNaN64 (FP.i2d x) := (i2d_fin x).noNaN
theorem own_pos {x : Int32} (h : 1 ≤ x.toInt) : cmpValue (FP.dcmp (FP.i2d x) FP.dconst0) .g = 1 := (Dy.i2d x).gt dy0 (by omega) _
theorem own_nneg {x : Int32} (h : 0 ≤ x.toInt) : ¬ cmpValue (FP.dcmp (FP.i2d x) FP.dconst0) .g < 0 := by
  by_cases q : x.toInt = 0
  · rw [(Dy.i2d x).eq dy0 q]; decide
  · rw [(Dy.i2d x).gt dy0 (by omega)]; decide
theorem own_gt {x y : Int32} (h : x.toInt < y.toInt) : cmpValue (FP.dcmp (FP.i2d y) (FP.i2d x)) .l = 1 := (Dy.i2d y).gt (Dy.i2d x) h _
theorem own_le {x y : Int32} (h : x.toInt ≤ y.toInt) : ¬ 0 < cmpValue (FP.dcmp (FP.i2d x) (FP.i2d y)) .l := by
  by_cases q : x.toInt = y.toInt
  · rw [(Dy.i2d x).eq (Dy.i2d y) q]; decide
  · rw [(Dy.i2d x).lt (Dy.i2d y) (by omega)]; decide

theorem own_strAtoms {Z : State} {a0 : Array Value} (hw : ∀ d ∈ tables_1, d.before a0 Z = true) : ∀ a ∈ Bundle.stringAtoms, a.before a0 Z = true := by
  intro a ha
  simp only [Bundle.stringAtoms, List.mem_cons, List.not_mem_nil, or_false] at ha
  rcases ha with rfl | rfl | rfl | rfl | rfl | rfl | rfl
  · exact hw _ (List.mem_of_getElem? (i := 14) rfl)
  · exact hw _ (List.mem_of_getElem? (i := 15) rfl)
  · exact hw _ (List.mem_of_getElem? (i := 16) rfl)
  · exact hw _ (List.mem_of_getElem? (i := 17) rfl)
  · exact hw _ (List.mem_of_getElem? (i := 18) rfl)
  · exact hw _ (List.mem_of_getElem? (i := 19) rfl)
  · exact hw _ (List.mem_of_getElem? (i := 20) rfl)
theorem own_fin_le {d : UInt64} (h : Jvm.Free.Fl.Fin64 d) : (¬ 0 < cmpValue (FP.dcmp (d &&& (0x7fffffffffffffff : UInt64)) (9218868437227405311 : UInt64)) .g) := by
  have q := (Jvm.Free.Fl.le_max_iff h.noNaN).mpr h
  have e : Jvm.Free.Fl.maxD = (9218868437227405311 : UInt64) := by decide
  rw [e] at q
  revert q
  generalize FP.dcmp (d &&& (0x7fffffffffffffff : UInt64)) (9218868437227405311 : UInt64) = o
  intro q
  rcases o with _ | (_ | _ | _) <;> first | (exact absurd q (by decide)) | decide
def QI (r : Int32) (h0 : Heap) (n0 : Nat) (v : Option Value) (h : Heap) (L : List Loc) : Prop := v = some (.int r) ∧ Fr n0 L ∧ h = h0
def QD (r : UInt64) (h0 : Heap) (n0 : Nat) (v : Option Value) (h : Heap) (L : List Loc) : Prop := v = some (.double r) ∧ Fr n0 L ∧ h = h0
def QR (r : Addr) (h0 : Heap) (n0 : Nat) (v : Option Value) (h : Heap) (L : List Loc) : Prop := v = some (.ref r) ∧ Fr n0 L ∧ h = h0
theorem own_h1 : decode jdk_117_method_8_code 0 = .ok (.dload_n 0, 1) := by decide +kernel
theorem own_h2 : decode jdk_117_method_8_code 1 = .ok (.invokestatic 38, 3) := by decide +kernel
theorem own_h3 : decode jdk_117_method_8_code 4 = .ok (.ldc2_w 111, 3) := by decide +kernel
theorem own_h4 : decode jdk_117_method_8_code 7 = .ok (.dcmp .g, 1) := by decide +kernel
theorem own_h5 : decode jdk_117_method_8_code 8 = .ok (.ifCond .gt 7, 3) := by decide +kernel
theorem own_h6 : decode jdk_117_method_8_code 11 = .ok (.iconst 1, 1) := by decide +kernel
theorem own_h7 : decode jdk_117_method_8_code 12 = .ok (.goto 4, 3) := by decide +kernel
theorem own_h8 : decode jdk_117_method_8_code 15 = .ok (.iconst 0, 1) := by decide +kernel
theorem own_h9 : decode jdk_117_method_8_code 16 = .ok (.ireturn, 1) := by decide +kernel
theorem own_h10 : plainName "java/lang/Double" = true := by first | (simp [plainName, overriddenIn]; done) | decide +kernel
theorem own_h11 : parseMethodDescriptor "(D)V" = some ⟨[.double], none⟩ := by decide +kernel
theorem own_h12 : parseMethodDescriptor "(DIZ)V" = some ⟨[.double, .int, .boolean], none⟩ := by decide +kernel
theorem own_h13 : parseMethodDescriptor "()V" = some ⟨[], none⟩ := by decide +kernel
theorem own_h14 : parseMethodDescriptor "(Ljava/lang/String;D)D" = some ⟨[.object "java/lang/String", .double], some .double⟩ := by decide +kernel
theorem own_h15 : parseMethodDescriptor "(D)Z" = some ⟨[.double], some .boolean⟩ := by decide +kernel
theorem own_h16 : parseMethodDescriptor "(D)D" = some ⟨[.double], some .double⟩ := by decide +kernel
theorem own_h17 : parseMethodDescriptor "(DD)V" = some ⟨[.double, .double], none⟩ := by decide +kernel
theorem own_h18 : parseMethodDescriptor "(Lcom/example/ample_gap/amplegap/simulation/OnRamp;)Lcom/example/ample_gap/amplegap/simulation/Road;" = some ⟨[.object "com/example/ample_gap/amplegap/simulation/OnRamp"], some (.object "com/example/ample_gap/amplegap/simulation/Road")⟩ := by decide +kernel
theorem own_h19 : parseMethodDescriptor "(Ljava/lang/Object;Ljava/lang/String;)Ljava/lang/Object;" = some ⟨[.object "java/lang/Object", .object "java/lang/String"], some (.object "java/lang/Object")⟩ := by decide +kernel
theorem own_h20 : parseMethodDescriptor "()D" = some ⟨[], some .double⟩ := by decide +kernel
theorem own_h21 : parseMethodDescriptor "(Lcom/example/ample_gap/amplegap/simulation/Road;Lcom/example/ample_gap/amplegap/simulation/OnRamp;)V" = some ⟨[.object "com/example/ample_gap/amplegap/simulation/Road", .object "com/example/ample_gap/amplegap/simulation/OnRamp"], none⟩ := by decide +kernel
theorem own_h22 : parseMethodDescriptor "()I" = some ⟨[], some .int⟩ := by decide +kernel
set_option maxRecDepth 65536 in
set_option maxHeartbeats 40000000 in
theorem rmFi (l : Launch) (Z : State) (a0 : Array Value) (hw : ∀ d ∈ tables_1, d.before a0 Z = true) (ws : List Jvm.Cond) (d : UInt64) (h0 : Heap) (n0 : Nat) (Z0 : n0 ≤ h0.size) (n1 : Jvm.Free.Fl.NoNaN64 d) (n2 : (¬ 0 < cmpValue (FP.dcmp (d &&& (0x7fffffffffffffff : UInt64)) (9218868437227405311 : UInt64)) .g)) :
    MetFree l (⟨"java/lang/Double", "isFinite", "(D)Z"⟩ : MethodName) (head1 (Jvm.Cond.code (⟨"java/lang/Double", "isFinite", "(D)Z"⟩ : MethodName) jdk_117_method_8_code 2 (some .boolean) :: ws) ({ frames := 1, cells := 0, slots := 0, locals := 13 } : Room)) (fun ar_ U => ar_ = #[(.double d)] ∧ Z.Warmed39 U.vm ∧ U.heap = h0) (fun _ _ _ _ _ => True) (fun _ U o U' => ∃ v L, o = .returned v ∧ QI (1 : Int32) h0 n0 v U'.heap L ∧ FrameEnd U o U' L ({ frames := 1, cells := 0, slots := 0, locals := 13 } : Room).cells ({ frames := 1, cells := 0, slots := 0, locals := 13 } : Room).slots) := by
  refine MetFree.of_bodySF (plainFor_of_name own_h10) hisR ?_
  intro p e s m args below meth c s₁ Bd hml0 hP hK
  obtain ⟨rfl, hZ, hh⟩ := hP
  have hx := Bd.exec
  have hby := Bd.bytes
  have hml : c.maxLocals = 2 := hml0
  have hown : s.vm.findClass "java/lang/Double" = some m.cls := findClass_of_methodNamed Bd.named
  have hnm := (name_of_methodNamed Bd.named Bd.method).1
  have X0 : Stand p l e ({ frames := 1, cells := 0, slots := 0, locals := 13 } : Room) s m #[(.double d)] below meth c s₁ [] 0 0 := Stand.of_body Bd
  have e0 : s₁.heap = h0 := by rw [← hh, Bd.state]; rfl
  have N0 := Fr.nil n0
  have k0 : own_K p e below (s₁.setTop (mkF m 0 #[.val (.double d), .second] [])) (s₁.setTop (entryFrame m #[(.double d)] 2)) := fun t k => castTop (by clear k; first | (simp [entryFrame, mkF, argsToLocals, Value.category, maxLocals]; done) | rfl) k
  have k1 : own_K p e below (s₁.setTop (mkF m 1 #[.val (.double d), .second] [(.double d)])) (s₁.setTop (entryFrame m #[(.double d)] 2)) := fun t hh => k0 t (by
    refine XS.dloadN X0.here hx rfl (hb hby own_h1) rfl ?_
    show Steps p.tables e below (s₁.setTop (mkF m 1 #[.val (.double d), .second] [(.double d)])) _
    exact hh)
  obtain ⟨T1, X2, e3, st4⟩ := natS X0 hx hZ (y := (⟨"java/lang/Math", "abs", "(D)D"⟩ : MethodName)) hown (wT hw 32 rfl) (wT hw 33 rfl) (wT hw 34 rfl) (wT hw 35 rfl) (by decide) e0 (W := 0) (val' := (.double (d &&& (0x7fffffffffffffff : UInt64)))) (fun c4 => Jvm.Free.Fl.Abs.absD_pays d c4 (by decide) (by decide)) (g := (mkF m 1 #[.val (.double d), .second] [(.double d)])) rfl (by rw [hml]; rfl) (argsL := [(.double d)]) (rest := []) (lenOf own_h16 rfl) rfl (by show 2 * 0 + _ ≤ _; exact Nat.le_of_eq rfl) (hb hby own_h2) (by decide) (by decide) ⟨rfl, n1⟩ rfl
  have k2 : own_K p e below (T1.setTop (mkF m 4 #[.val (.double d), .second] [(.double (d &&& (0x7fffffffffffffff : UInt64)))])) (s₁.setTop (entryFrame m #[(.double d)] 2)) := fun t hh => k1 t (st4 t hh)
  have k3 : own_K p e below (T1.setTop (mkF m 16 #[.val (.double d), .second] [(.int (1 : Int32))])) (s₁.setTop (entryFrame m #[(.double d)] 2)) := fun t hh => k2 t (by
    refine X2.ldc2DoubleC hx hown (mvT hZ (wT hw 36 rfl)) (g := (mkF m 4 #[.val (.double d), .second] [(.double (d &&& (0x7fffffffffffffff : UInt64)))])) rfl (hb hby own_h3) _ ?_
    show Steps p.tables e below (T1.setTop (mkF m 7 #[.val (.double d), .second] [(.double (9218868437227405311 : UInt64)), (.double (d &&& (0x7fffffffffffffff : UInt64)))])) _
    refine XS.dcmpS X2.here hx rfl (hb hby own_h4) rfl rfl ?_
    show Steps p.tables e below (T1.setTop (mkF m 8 #[.val (.double d), .second] [(.int (cmpValue (FP.dcmp (d &&& (0x7fffffffffffffff : UInt64)) (9218868437227405311 : UInt64)) .g))])) _
    refine XS.ifNo X2.here hx rfl (hb hby own_h5) rfl (own_ifF_gt n2) ?_
    show Steps p.tables e below (T1.setTop (mkF m 11 #[.val (.double d), .second] [])) _
    refine XS.iconst X2.here hx rfl (hb hby own_h6) ?_
    show Steps p.tables e below (T1.setTop (mkF m 12 #[.val (.double d), .second] [(.int (1 : Int32))])) _
    refine XS.goto X2.here hx rfl (pc0 := 12) (pc' := 16) rfl (hb hby own_h7) (by decide) (by decide) ?_
    show Steps p.tables e below (T1.setTop (mkF m 16 #[.val (.double d), .second] [(.int (1 : Int32))])) _
    exact hh)
  obtain ⟨fs, hr, hrun, hended, hW, hsame⟩ := X2.leave (v := some (.int (1 : Int32))) (fun h => by rw [Bd.returns] at h; cases h)
  refine ⟨_, _, k3 _ (retN X2 hx (t := .boolean) Bd.returns (by simp) (hb hby own_h9) hr), hrun, hended, _, _, rfl, ?_, ⟨_, rfl⟩, hW, hsame.mono (by decide) (by decide)⟩
  show QI (1 : Int32) h0 n0 _ T1.heap _
  rw [e3]
  exact ⟨rfl, N0, rfl⟩
theorem own_h23 : decode prog_30_method_5_code 0 = .ok (.dload_n 1, 1) := by decide +kernel
theorem own_h24 : decode prog_30_method_5_code 1 = .ok (.invokestatic 26, 3) := by decide +kernel
theorem own_h25 : decode prog_30_method_5_code 4 = .ok (.ifCond .ne 18, 3) := by decide +kernel
theorem own_h26 : decode prog_30_method_5_code 7 = .ok (.new 13, 3) := by decide +kernel
theorem own_h27 : decode prog_30_method_5_code 10 = .ok (.dup, 1) := by decide +kernel
theorem own_h28 : decode prog_30_method_5_code 11 = .ok (.aload_n 0, 1) := by decide +kernel
theorem own_h29 : decode prog_30_method_5_code 12 = .ok (.dload_n 1, 1) := by decide +kernel
theorem own_h30 : decode prog_30_method_5_code 13 = .ok (.invokedynamic 32, 5) := by decide +kernel
theorem own_h31 : decode prog_30_method_5_code 18 = .ok (.invokespecial 19, 3) := by decide +kernel
theorem own_h32 : decode prog_30_method_5_code 21 = .ok (.athrow, 1) := by decide +kernel
theorem own_h33 : decode prog_30_method_5_code 22 = .ok (.dload_n 1, 1) := by decide +kernel
theorem own_h34 : decode prog_30_method_5_code 23 = .ok (.dreturn, 1) := by decide +kernel
theorem own_h35 : plainName "com/example/ample_gap/amplegap/model/Ranges" = true := by first | (simp [plainName, overriddenIn]; done) | decide +kernel
set_option maxRecDepth 65536 in
set_option maxHeartbeats 40000000 in
theorem rmRf (l : Launch) (Z : State) (a0 : Array Value) (hw : ∀ d ∈ tables_1, d.before a0 Z = true) (ws : List Jvm.Cond) (sa : Addr) (d : UInt64) (h0 : Heap) (n0 : Nat) (Z0 : n0 ≤ h0.size) (n1 : Jvm.Free.Fl.NoNaN64 d) (n2 : (¬ 0 < cmpValue (FP.dcmp (d &&& (0x7fffffffffffffff : UInt64)) (9218868437227405311 : UInt64)) .g)) :
    MetFree l (⟨"com/example/ample_gap/amplegap/model/Ranges", "requireFinite", "(Ljava/lang/String;D)D"⟩ : MethodName) (head1 (Jvm.Cond.code (⟨"com/example/ample_gap/amplegap/model/Ranges", "requireFinite", "(Ljava/lang/String;D)D"⟩ : MethodName) prog_30_method_5_code 3 (some .double) :: ws) ({ frames := 2, cells := 0, slots := 0, locals := 26 } : Room)) (fun ar_ U => ar_ = #[(.ref sa), (.double d)] ∧ Z.Warmed39 U.vm ∧ U.heap = h0) (fun _ _ _ _ _ => True) (fun _ U o U' => ∃ v L, o = .returned v ∧ QD d h0 n0 v U'.heap L ∧ FrameEnd U o U' L ({ frames := 2, cells := 0, slots := 0, locals := 26 } : Room).cells ({ frames := 2, cells := 0, slots := 0, locals := 26 } : Room).slots) := by
  refine MetFree.of_bodySF (plainFor_of_name own_h35) hisR ?_
  intro p e s m args below meth c s₁ Bd hml0 hP hK
  obtain ⟨rfl, hZ, hh⟩ := hP
  have hx := Bd.exec
  have hby := Bd.bytes
  have hml : c.maxLocals = 3 := hml0
  have hown : s.vm.findClass "com/example/ample_gap/amplegap/model/Ranges" = some m.cls := findClass_of_methodNamed Bd.named
  have hnm := (name_of_methodNamed Bd.named Bd.method).1
  have X0 : Stand p l e ({ frames := 2, cells := 0, slots := 0, locals := 26 } : Room) s m #[(.ref sa), (.double d)] below meth c s₁ [] 0 0 := Stand.of_body Bd
  have e0 : s₁.heap = h0 := by rw [← hh, Bd.state]; rfl
  have N0 := Fr.nil n0
  have k0 : own_K p e below (s₁.setTop (mkF m 0 #[.val (.ref sa), .val (.double d), .second] [])) (s₁.setTop (entryFrame m #[(.ref sa), (.double d)] 3)) := fun t k => castTop (by clear k; first | (simp [entryFrame, mkF, argsToLocals, Value.category, maxLocals]; done) | rfl) k
  have k1 : own_K p e below (s₁.setTop (mkF m 1 #[.val (.ref sa), .val (.double d), .second] [(.double d)])) (s₁.setTop (entryFrame m #[(.ref sa), (.double d)] 3)) := fun t hh => k0 t (by
    refine XS.dloadN X0.here hx rfl (hb hby own_h23) rfl ?_
    show Steps p.tables e below (s₁.setTop (mkF m 1 #[.val (.ref sa), .val (.double d), .second] [(.double d)])) _
    exact hh)
  obtain ⟨_, _, ⟨T5, L6, k_7, n_8⟩, -, X9, ⟨Lc10, hQ11, l_12, y_13, z_14⟩, st15⟩ := Jvm.LawKit.callS X0 hx (y := (⟨"java/lang/Double", "isFinite", "(D)Z"⟩ : MethodName)) hown (mvT hZ (wT hw 28 rfl)) (mvT hZ (wT hw 29 rfl)) (mvT hZ (wT hw 30 rfl)) (mvT hZ (wT hw 31 rfl)) (by decide) (backOf (W := 0) (rmFi l Z a0 hw [] d h0 n0 Z0 n1 n2) hZ (wT hw 31 rfl) (wT hw 30 rfl) (by decide) (by decide)) (g := (mkF m 1 #[.val (.ref sa), .val (.double d), .second] [(.double d)])) rfl (by rw [hml]; rfl) (argsL := [(.double d)]) (rest := []) (lenOf own_h15 rfl) rfl (by show 2 * 0 + _ ≤ _; exact Nat.le_of_eq rfl) (hb hby own_h24) (fun _ _ => ⟨rfl, e0, (by decide : 0 + 0 ≤ _), (by decide : 0 + 0 ≤ _)⟩)
  dsimp only [Pt.U, Pt.locs, Pt.cells, Pt.slots] at X9 l_12 y_13 z_14 st15 hQ11
  subst l_12 y_13 z_14
  obtain ⟨rfl, N16, e17⟩ := hQ11
  have N18 := Fr.app N0 N16
  have k2 : own_K p e below (T5.setTop (mkF m 4 #[.val (.ref sa), .val (.double d), .second] [(.int (1 : Int32))])) (s₁.setTop (entryFrame m #[(.ref sa), (.double d)] 3)) := fun t hh => k1 t (st15 t hh)
  have k3 : own_K p e below (T5.setTop (mkF m 23 #[.val (.ref sa), .val (.double d), .second] [(.double d)])) (s₁.setTop (entryFrame m #[(.ref sa), (.double d)] 3)) := fun t hh => k2 t (by
    refine XS.ifYes X9.here hx rfl (pc0 := 4) (pc' := 22) rfl (hb hby own_h25) rfl (by decide) (by decide) (by decide) ?_
    show Steps p.tables e below (T5.setTop (mkF m 22 #[.val (.ref sa), .val (.double d), .second] [])) _
    refine XS.dloadN X9.here hx rfl (hb hby own_h33) rfl ?_
    show Steps p.tables e below (T5.setTop (mkF m 23 #[.val (.ref sa), .val (.double d), .second] [(.double d)])) _
    exact hh)
  obtain ⟨fs, hr, hrun, hended, hW, hsame⟩ := X9.leave (v := some (.double d)) (fun h => by rw [Bd.returns] at h; cases h)
  refine ⟨_, _, k3 _ (retOut X9 hx (t := .double) Bd.returns rfl (Or.inr (Or.inr (Or.inl ⟨rfl, rfl, _, rfl⟩))) (hb hby own_h34) hr), hrun, hended, _, _, rfl, ?_, ⟨_, rfl⟩, hW, hsame.mono (by decide) (by decide)⟩
  show QD d h0 n0 _ T5.heap _
  rw [e17]
  exact ⟨rfl, N18, rfl⟩
theorem own_h36 : decode prog_30_method_2_code 0 = .ok (.aload_n 0, 1) := by decide +kernel
theorem own_h37 : decode prog_30_method_2_code 1 = .ok (.dload_n 1, 1) := by decide +kernel
theorem own_h38 : decode prog_30_method_2_code 2 = .ok (.invokestatic 7, 3) := by decide +kernel
theorem own_h39 : decode prog_30_method_2_code 5 = .ok (.pop2, 1) := by decide +kernel
theorem own_h40 : decode prog_30_method_2_code 6 = .ok (.dload_n 1, 1) := by decide +kernel
theorem own_h41 : decode prog_30_method_2_code 7 = .ok (.dconst 0, 1) := by decide +kernel
theorem own_h42 : decode prog_30_method_2_code 8 = .ok (.dcmp .g, 1) := by decide +kernel
theorem own_h43 : decode prog_30_method_2_code 9 = .ok (.ifCond .gt 18, 3) := by decide +kernel
theorem own_h44 : decode prog_30_method_2_code 12 = .ok (.new 13, 3) := by decide +kernel
theorem own_h45 : decode prog_30_method_2_code 15 = .ok (.dup, 1) := by decide +kernel
theorem own_h46 : decode prog_30_method_2_code 16 = .ok (.aload_n 0, 1) := by decide +kernel
theorem own_h47 : decode prog_30_method_2_code 17 = .ok (.dload_n 1, 1) := by decide +kernel
theorem own_h48 : decode prog_30_method_2_code 18 = .ok (.invokedynamic 15, 5) := by decide +kernel
theorem own_h49 : decode prog_30_method_2_code 23 = .ok (.invokespecial 19, 3) := by decide +kernel
theorem own_h50 : decode prog_30_method_2_code 26 = .ok (.athrow, 1) := by decide +kernel
theorem own_h51 : decode prog_30_method_2_code 27 = .ok (.dload_n 1, 1) := by decide +kernel
theorem own_h52 : decode prog_30_method_2_code 28 = .ok (.dreturn, 1) := by decide +kernel
set_option maxRecDepth 65536 in
set_option maxHeartbeats 40000000 in
theorem rmRp (l : Launch) (Z : State) (a0 : Array Value) (hw : ∀ d ∈ tables_1, d.before a0 Z = true) (ws : List Jvm.Cond) (sa : Addr) (d : UInt64) (h0 : Heap) (n0 : Nat) (Z0 : n0 ≤ h0.size) (n1 : Jvm.Free.Fl.NoNaN64 d) (n2 : (¬ 0 < cmpValue (FP.dcmp (d &&& (0x7fffffffffffffff : UInt64)) (9218868437227405311 : UInt64)) .g)) (n3 : cmpValue (FP.dcmp d FP.dconst0) .g = 1) :
    MetFree l (⟨"com/example/ample_gap/amplegap/model/Ranges", "requirePositive", "(Ljava/lang/String;D)D"⟩ : MethodName) (head1 (Jvm.Cond.code (⟨"com/example/ample_gap/amplegap/model/Ranges", "requirePositive", "(Ljava/lang/String;D)D"⟩ : MethodName) prog_30_method_2_code 3 (some .double) :: ws) ({ frames := 3, cells := 0, slots := 0, locals := 40 } : Room)) (fun ar_ U => ar_ = #[(.ref sa), (.double d)] ∧ Z.Warmed39 U.vm ∧ U.heap = h0) (fun _ _ _ _ _ => True) (fun _ U o U' => ∃ v L, o = .returned v ∧ QD d h0 n0 v U'.heap L ∧ FrameEnd U o U' L ({ frames := 3, cells := 0, slots := 0, locals := 40 } : Room).cells ({ frames := 3, cells := 0, slots := 0, locals := 40 } : Room).slots) := by
  refine MetFree.of_bodySF (plainFor_of_name own_h35) hisR ?_
  intro p e s m args below meth c s₁ Bd hml0 hP hK
  obtain ⟨rfl, hZ, hh⟩ := hP
  have hx := Bd.exec
  have hby := Bd.bytes
  have hml : c.maxLocals = 3 := hml0
  have hown : s.vm.findClass "com/example/ample_gap/amplegap/model/Ranges" = some m.cls := findClass_of_methodNamed Bd.named
  have hnm := (name_of_methodNamed Bd.named Bd.method).1
  have X0 : Stand p l e ({ frames := 3, cells := 0, slots := 0, locals := 40 } : Room) s m #[(.ref sa), (.double d)] below meth c s₁ [] 0 0 := Stand.of_body Bd
  have e0 : s₁.heap = h0 := by rw [← hh, Bd.state]; rfl
  have N0 := Fr.nil n0
  have k0 : own_K p e below (s₁.setTop (mkF m 0 #[.val (.ref sa), .val (.double d), .second] [])) (s₁.setTop (entryFrame m #[(.ref sa), (.double d)] 3)) := fun t k => castTop (by clear k; first | (simp [entryFrame, mkF, argsToLocals, Value.category, maxLocals]; done) | rfl) k
  have k1 : own_K p e below (s₁.setTop (mkF m 2 #[.val (.ref sa), .val (.double d), .second] [(.double d), (.ref sa)])) (s₁.setTop (entryFrame m #[(.ref sa), (.double d)] 3)) := fun t hh => k0 t (by
    refine XS.aloadN X0.here hx rfl (hb hby own_h36) rfl rfl ?_
    show Steps p.tables e below (s₁.setTop (mkF m 1 #[.val (.ref sa), .val (.double d), .second] [(.ref sa)])) _
    refine XS.dloadN X0.here hx rfl (hb hby own_h37) rfl ?_
    show Steps p.tables e below (s₁.setTop (mkF m 2 #[.val (.ref sa), .val (.double d), .second] [(.double d), (.ref sa)])) _
    exact hh)
  obtain ⟨_, _, ⟨T19, L20, k_21, n_22⟩, -, X23, ⟨Lc24, hQ25, l_26, y_27, z_28⟩, st29⟩ := Jvm.LawKit.callS X0 hx (y := (⟨"com/example/ample_gap/amplegap/model/Ranges", "requireFinite", "(Ljava/lang/String;D)D"⟩ : MethodName)) hown (mvT hZ (wT hw 25 rfl)) (mvT hZ (wT hw 26 rfl)) (mvT hZ (wT hw 23 rfl)) (mvT hZ (wT hw 27 rfl)) (by decide) (backOf (W := 0) (rmRf l Z a0 hw [] sa d h0 n0 Z0 n1 n2) hZ (wT hw 27 rfl) (wT hw 23 rfl) (by decide) (by decide)) (g := (mkF m 2 #[.val (.ref sa), .val (.double d), .second] [(.double d), (.ref sa)])) rfl (by rw [hml]; rfl) (argsL := [(.ref sa), (.double d)]) (rest := []) (lenOf own_h14 rfl) rfl (by show 2 * 0 + _ ≤ _; exact Nat.le_of_eq rfl) (hb hby own_h38) (fun _ _ => ⟨rfl, e0, (by decide : 0 + 0 ≤ _), (by decide : 0 + 0 ≤ _)⟩)
  dsimp only [Pt.U, Pt.locs, Pt.cells, Pt.slots] at X23 l_26 y_27 z_28 st29 hQ25
  subst l_26 y_27 z_28
  obtain ⟨rfl, N30, e31⟩ := hQ25
  have N32 := Fr.app N0 N30
  have k2 : own_K p e below (T19.setTop (mkF m 5 #[.val (.ref sa), .val (.double d), .second] [(.double d)])) (s₁.setTop (entryFrame m #[(.ref sa), (.double d)] 3)) := fun t hh => k1 t (st29 t hh)
  have k3 : own_K p e below (T19.setTop (mkF m 28 #[.val (.ref sa), .val (.double d), .second] [(.double d)])) (s₁.setTop (entryFrame m #[(.ref sa), (.double d)] 3)) := fun t hh => k2 t (by
    refine own_pop2 X23.here hx rfl (hb hby own_h39) rfl ?_
    show Steps p.tables e below (T19.setTop (mkF m 6 #[.val (.ref sa), .val (.double d), .second] [])) _
    refine XS.dloadN X23.here hx rfl (hb hby own_h40) rfl ?_
    show Steps p.tables e below (T19.setTop (mkF m 7 #[.val (.ref sa), .val (.double d), .second] [(.double d)])) _
    refine XS.dconst0 X23.here hx rfl (hb hby own_h41) rfl ?_
    show Steps p.tables e below (T19.setTop (mkF m 8 #[.val (.ref sa), .val (.double d), .second] [(.double FP.dconst0), (.double d)])) _
    refine XS.dcmpS X23.here hx rfl (hb hby own_h42) rfl n3 ?_
    show Steps p.tables e below (T19.setTop (mkF m 9 #[.val (.ref sa), .val (.double d), .second] [(.int (1 : Int32))])) _
    refine XS.ifYes X23.here hx rfl (pc0 := 9) (pc' := 27) rfl (hb hby own_h43) rfl (by decide) (by decide) (by decide) ?_
    show Steps p.tables e below (T19.setTop (mkF m 27 #[.val (.ref sa), .val (.double d), .second] [])) _
    refine XS.dloadN X23.here hx rfl (hb hby own_h51) rfl ?_
    show Steps p.tables e below (T19.setTop (mkF m 28 #[.val (.ref sa), .val (.double d), .second] [(.double d)])) _
    exact hh)
  obtain ⟨fs, hr, hrun, hended, hW, hsame⟩ := X23.leave (v := some (.double d)) (fun h => by rw [Bd.returns] at h; cases h)
  refine ⟨_, _, k3 _ (retOut X23 hx (t := .double) Bd.returns rfl (Or.inr (Or.inr (Or.inl ⟨rfl, rfl, _, rfl⟩))) (hb hby own_h52) hr), hrun, hended, _, _, rfl, ?_, ⟨_, rfl⟩, hW, hsame.mono (by decide) (by decide)⟩
  show QD d h0 n0 _ T19.heap _
  rw [e31]
  exact ⟨rfl, N32, rfl⟩
theorem own_h53 : decode prog_30_method_3_code 0 = .ok (.aload_n 0, 1) := by decide +kernel
theorem own_h54 : decode prog_30_method_3_code 1 = .ok (.dload_n 1, 1) := by decide +kernel
theorem own_h55 : decode prog_30_method_3_code 2 = .ok (.invokestatic 7, 3) := by decide +kernel
theorem own_h56 : decode prog_30_method_3_code 5 = .ok (.pop2, 1) := by decide +kernel
theorem own_h57 : decode prog_30_method_3_code 6 = .ok (.dload_n 1, 1) := by decide +kernel
theorem own_h58 : decode prog_30_method_3_code 7 = .ok (.dconst 0, 1) := by decide +kernel
theorem own_h59 : decode prog_30_method_3_code 8 = .ok (.dcmp .g, 1) := by decide +kernel
theorem own_h60 : decode prog_30_method_3_code 9 = .ok (.ifCond .ge 18, 3) := by decide +kernel
theorem own_h61 : decode prog_30_method_3_code 12 = .ok (.new 13, 3) := by decide +kernel
theorem own_h62 : decode prog_30_method_3_code 15 = .ok (.dup, 1) := by decide +kernel
theorem own_h63 : decode prog_30_method_3_code 16 = .ok (.aload_n 0, 1) := by decide +kernel
theorem own_h64 : decode prog_30_method_3_code 17 = .ok (.dload_n 1, 1) := by decide +kernel
theorem own_h65 : decode prog_30_method_3_code 18 = .ok (.invokedynamic 22, 5) := by decide +kernel
theorem own_h66 : decode prog_30_method_3_code 23 = .ok (.invokespecial 19, 3) := by decide +kernel
theorem own_h67 : decode prog_30_method_3_code 26 = .ok (.athrow, 1) := by decide +kernel
theorem own_h68 : decode prog_30_method_3_code 27 = .ok (.dload_n 1, 1) := by decide +kernel
theorem own_h69 : decode prog_30_method_3_code 28 = .ok (.dreturn, 1) := by decide +kernel
set_option maxRecDepth 65536 in
set_option maxHeartbeats 40000000 in
theorem rmRn (l : Launch) (Z : State) (a0 : Array Value) (hw : ∀ d ∈ tables_1, d.before a0 Z = true) (ws : List Jvm.Cond) (sa : Addr) (d : UInt64) (h0 : Heap) (n0 : Nat) (Z0 : n0 ≤ h0.size) (n1 : Jvm.Free.Fl.NoNaN64 d) (n2 : (¬ 0 < cmpValue (FP.dcmp (d &&& (0x7fffffffffffffff : UInt64)) (9218868437227405311 : UInt64)) .g)) (n3 : ¬ cmpValue (FP.dcmp d FP.dconst0) .g < 0) :
    MetFree l (⟨"com/example/ample_gap/amplegap/model/Ranges", "requireNonNegative", "(Ljava/lang/String;D)D"⟩ : MethodName) (head1 (Jvm.Cond.code (⟨"com/example/ample_gap/amplegap/model/Ranges", "requireNonNegative", "(Ljava/lang/String;D)D"⟩ : MethodName) prog_30_method_3_code 3 (some .double) :: ws) ({ frames := 3, cells := 0, slots := 0, locals := 40 } : Room)) (fun ar_ U => ar_ = #[(.ref sa), (.double d)] ∧ Z.Warmed39 U.vm ∧ U.heap = h0) (fun _ _ _ _ _ => True) (fun _ U o U' => ∃ v L, o = .returned v ∧ QD d h0 n0 v U'.heap L ∧ FrameEnd U o U' L ({ frames := 3, cells := 0, slots := 0, locals := 40 } : Room).cells ({ frames := 3, cells := 0, slots := 0, locals := 40 } : Room).slots) := by
  refine MetFree.of_bodySF (plainFor_of_name own_h35) hisR ?_
  intro p e s m args below meth c s₁ Bd hml0 hP hK
  obtain ⟨rfl, hZ, hh⟩ := hP
  have hx := Bd.exec
  have hby := Bd.bytes
  have hml : c.maxLocals = 3 := hml0
  have hown : s.vm.findClass "com/example/ample_gap/amplegap/model/Ranges" = some m.cls := findClass_of_methodNamed Bd.named
  have hnm := (name_of_methodNamed Bd.named Bd.method).1
  have X0 : Stand p l e ({ frames := 3, cells := 0, slots := 0, locals := 40 } : Room) s m #[(.ref sa), (.double d)] below meth c s₁ [] 0 0 := Stand.of_body Bd
  have e0 : s₁.heap = h0 := by rw [← hh, Bd.state]; rfl
  have N0 := Fr.nil n0
  have k0 : own_K p e below (s₁.setTop (mkF m 0 #[.val (.ref sa), .val (.double d), .second] [])) (s₁.setTop (entryFrame m #[(.ref sa), (.double d)] 3)) := fun t k => castTop (by clear k; first | (simp [entryFrame, mkF, argsToLocals, Value.category, maxLocals]; done) | rfl) k
  have k1 : own_K p e below (s₁.setTop (mkF m 2 #[.val (.ref sa), .val (.double d), .second] [(.double d), (.ref sa)])) (s₁.setTop (entryFrame m #[(.ref sa), (.double d)] 3)) := fun t hh => k0 t (by
    refine XS.aloadN X0.here hx rfl (hb hby own_h53) rfl rfl ?_
    show Steps p.tables e below (s₁.setTop (mkF m 1 #[.val (.ref sa), .val (.double d), .second] [(.ref sa)])) _
    refine XS.dloadN X0.here hx rfl (hb hby own_h54) rfl ?_
    show Steps p.tables e below (s₁.setTop (mkF m 2 #[.val (.ref sa), .val (.double d), .second] [(.double d), (.ref sa)])) _
    exact hh)
  obtain ⟨_, _, ⟨T33, L34, k_35, n_36⟩, -, X37, ⟨Lc38, hQ39, l_40, y_41, z_42⟩, st43⟩ := Jvm.LawKit.callS X0 hx (y := (⟨"com/example/ample_gap/amplegap/model/Ranges", "requireFinite", "(Ljava/lang/String;D)D"⟩ : MethodName)) hown (mvT hZ (wT hw 25 rfl)) (mvT hZ (wT hw 26 rfl)) (mvT hZ (wT hw 23 rfl)) (mvT hZ (wT hw 27 rfl)) (by decide) (backOf (W := 0) (rmRf l Z a0 hw [] sa d h0 n0 Z0 n1 n2) hZ (wT hw 27 rfl) (wT hw 23 rfl) (by decide) (by decide)) (g := (mkF m 2 #[.val (.ref sa), .val (.double d), .second] [(.double d), (.ref sa)])) rfl (by rw [hml]; rfl) (argsL := [(.ref sa), (.double d)]) (rest := []) (lenOf own_h14 rfl) rfl (by show 2 * 0 + _ ≤ _; exact Nat.le_of_eq rfl) (hb hby own_h55) (fun _ _ => ⟨rfl, e0, (by decide : 0 + 0 ≤ _), (by decide : 0 + 0 ≤ _)⟩)
  dsimp only [Pt.U, Pt.locs, Pt.cells, Pt.slots] at X37 l_40 y_41 z_42 st43 hQ39
  subst l_40 y_41 z_42
  obtain ⟨rfl, N44, e45⟩ := hQ39
  have N46 := Fr.app N0 N44
  have k2 : own_K p e below (T33.setTop (mkF m 5 #[.val (.ref sa), .val (.double d), .second] [(.double d)])) (s₁.setTop (entryFrame m #[(.ref sa), (.double d)] 3)) := fun t hh => k1 t (st43 t hh)
  have k3 : own_K p e below (T33.setTop (mkF m 28 #[.val (.ref sa), .val (.double d), .second] [(.double d)])) (s₁.setTop (entryFrame m #[(.ref sa), (.double d)] 3)) := fun t hh => k2 t (by
    refine own_pop2 X37.here hx rfl (hb hby own_h56) rfl ?_
    show Steps p.tables e below (T33.setTop (mkF m 6 #[.val (.ref sa), .val (.double d), .second] [])) _
    refine XS.dloadN X37.here hx rfl (hb hby own_h57) rfl ?_
    show Steps p.tables e below (T33.setTop (mkF m 7 #[.val (.ref sa), .val (.double d), .second] [(.double d)])) _
    refine XS.dconst0 X37.here hx rfl (hb hby own_h58) rfl ?_
    show Steps p.tables e below (T33.setTop (mkF m 8 #[.val (.ref sa), .val (.double d), .second] [(.double FP.dconst0), (.double d)])) _
    refine XS.dcmpS X37.here hx rfl (hb hby own_h59) rfl rfl ?_
    show Steps p.tables e below (T33.setTop (mkF m 9 #[.val (.ref sa), .val (.double d), .second] [(.int (cmpValue (FP.dcmp d FP.dconst0) .g))])) _
    refine XS.ifYes X37.here hx rfl (pc0 := 9) (pc' := 27) rfl (hb hby own_h60) rfl (own_ifT_ge n3) (by decide) (by decide) ?_
    show Steps p.tables e below (T33.setTop (mkF m 27 #[.val (.ref sa), .val (.double d), .second] [])) _
    refine XS.dloadN X37.here hx rfl (hb hby own_h68) rfl ?_
    show Steps p.tables e below (T33.setTop (mkF m 28 #[.val (.ref sa), .val (.double d), .second] [(.double d)])) _
    exact hh)
  obtain ⟨fs, hr, hrun, hended, hW, hsame⟩ := X37.leave (v := some (.double d)) (fun h => by rw [Bd.returns] at h; cases h)
  refine ⟨_, _, k3 _ (retOut X37 hx (t := .double) Bd.returns rfl (Or.inr (Or.inr (Or.inl ⟨rfl, rfl, _, rfl⟩))) (hb hby own_h69) hr), hrun, hended, _, _, rfl, ?_, ⟨_, rfl⟩, hW, hsame.mono (by decide) (by decide)⟩
  show QD d h0 n0 _ T33.heap _
  rw [e45]
  exact ⟨rfl, N46, rfl⟩
def QD_ (Z : State) (a : Addr) (d : UInt64) (n z : Int32) (h0 : Heap) (n0 : Nat) (v : Option Value) (h : Heap) (L : List Loc) : Prop := v = none ∧ Fr n0 L ∧ Keep h0 h [a] ∧ Exa Z h a "com/example/ample_gap/amplegap/simulation/Road" ∧ Fld Z h a "com/example/ample_gap/amplegap/simulation/Road" "length" "D" (.double d) ∧ Fld Z h a "com/example/ample_gap/amplegap/simulation/Road" "lanes" "I" (.int n) ∧ Fld Z h a "com/example/ample_gap/amplegap/simulation/Road" "ring" "Z" (.int z) ∧ Fld Z h a "com/example/ample_gap/amplegap/simulation/Road" "onRamp" "Lcom/example/ample_gap/amplegap/simulation/OnRamp;" .null
theorem own_h70 : decode prog_49_method_3_code 0 = .ok (.aload_n 0, 1) := by decide +kernel
theorem own_h71 : decode prog_49_method_3_code 1 = .ok (.invokespecial 7, 3) := by decide +kernel
theorem own_h72 : decode prog_49_method_3_code 4 = .ok (.iload_n 3, 1) := by decide +kernel
theorem own_h73 : decode prog_49_method_3_code 5 = .ok (.iconst 1, 1) := by decide +kernel
theorem own_h74 : decode prog_49_method_3_code 6 = .ok (.if_icmp .lt 9, 3) := by decide +kernel
theorem own_h75 : decode prog_49_method_3_code 9 = .ok (.iload_n 3, 1) := by decide +kernel
theorem own_h76 : decode prog_49_method_3_code 10 = .ok (.bipush 16, 2) := by decide +kernel
theorem own_h77 : decode prog_49_method_3_code 12 = .ok (.if_icmp .le 17, 3) := by decide +kernel
theorem own_h78 : decode prog_49_method_3_code 15 = .ok (.new 12, 3) := by decide +kernel
theorem own_h79 : decode prog_49_method_3_code 18 = .ok (.dup, 1) := by decide +kernel
theorem own_h80 : decode prog_49_method_3_code 19 = .ok (.iload_n 3, 1) := by decide +kernel
theorem own_h81 : decode prog_49_method_3_code 20 = .ok (.invokedynamic 14, 5) := by decide +kernel
theorem own_h82 : decode prog_49_method_3_code 25 = .ok (.invokespecial 18, 3) := by decide +kernel
theorem own_h83 : decode prog_49_method_3_code 28 = .ok (.athrow, 1) := by decide +kernel
theorem own_h84 : decode prog_49_method_3_code 29 = .ok (.aload_n 0, 1) := by decide +kernel
theorem own_h85 : decode prog_49_method_3_code 30 = .ok (.iload 4, 2) := by decide +kernel
theorem own_h86 : decode prog_49_method_3_code 32 = .ok (.ifCond .eq 8, 3) := by decide +kernel
theorem own_h87 : decode prog_49_method_3_code 35 = .ok (.ldc 21, 2) := by decide +kernel
theorem own_h88 : decode prog_49_method_3_code 37 = .ok (.goto 5, 3) := by decide +kernel
theorem own_h89 : decode prog_49_method_3_code 40 = .ok (.ldc 23, 2) := by decide +kernel
theorem own_h90 : decode prog_49_method_3_code 42 = .ok (.dload_n 1, 1) := by decide +kernel
theorem own_h91 : decode prog_49_method_3_code 43 = .ok (.invokestatic 25, 3) := by decide +kernel
theorem own_h92 : decode prog_49_method_3_code 46 = .ok (.putfield 31, 3) := by decide +kernel
theorem own_h93 : decode prog_49_method_3_code 49 = .ok (.aload_n 0, 1) := by decide +kernel
theorem own_h94 : decode prog_49_method_3_code 50 = .ok (.iload_n 3, 1) := by decide +kernel
theorem own_h95 : decode prog_49_method_3_code 51 = .ok (.putfield 35, 3) := by decide +kernel
theorem own_h96 : decode prog_49_method_3_code 54 = .ok (.aload_n 0, 1) := by decide +kernel
theorem own_h97 : decode prog_49_method_3_code 55 = .ok (.iload 4, 2) := by decide +kernel
theorem own_h98 : decode prog_49_method_3_code 57 = .ok (.putfield 39, 3) := by decide +kernel
theorem own_h99 : decode prog_49_method_3_code 60 = .ok (.aload_n 0, 1) := by decide +kernel
theorem own_h100 : decode prog_49_method_3_code 61 = .ok (.aconst_null, 1) := by decide +kernel
theorem own_h101 : decode prog_49_method_3_code 62 = .ok (.putfield 43, 3) := by decide +kernel
theorem own_h102 : decode prog_49_method_3_code 65 = .ok (.return_, 1) := by decide +kernel
theorem own_h103 : plainName "com/example/ample_gap/amplegap/simulation/Road" = true := by first | (simp [plainName, overriddenIn]; done) | decide +kernel
set_option maxRecDepth 65536 in
set_option maxHeartbeats 40000000 in
theorem rmD0 (l : Launch) (Z : State) (a0 : Array Value) (hw : ∀ d ∈ tables_1, d.before a0 Z = true) (ws : List Jvm.Cond) (a : Addr) (d : UInt64) (n : Int32) (h0 : Heap) (n0 : Nat) (Z0 : n0 ≤ h0.size) (E1 : Exa Z h0 a "com/example/ample_gap/amplegap/simulation/Road") (g1 : n0 ≤ a) (F1 : Fld Z h0 a "com/example/ample_gap/amplegap/simulation/Road" "length" "D" (.double (0 : UInt64))) (F2 : Fld Z h0 a "com/example/ample_gap/amplegap/simulation/Road" "lanes" "I" (.int (0 : Int32))) (F3 : Fld Z h0 a "com/example/ample_gap/amplegap/simulation/Road" "ring" "Z" (.int (0 : Int32))) (F4 : Fld Z h0 a "com/example/ample_gap/amplegap/simulation/Road" "onRamp" "Lcom/example/ample_gap/amplegap/simulation/OnRamp;" .null) (n1 : Jvm.Free.Fl.NoNaN64 d) (n2 : (¬ 0 < cmpValue (FP.dcmp (d &&& (0x7fffffffffffffff : UInt64)) (9218868437227405311 : UInt64)) .g)) (n3 : cmpValue (FP.dcmp d FP.dconst0) .g = 1) (q1 : ¬ n < (1 : Int32)) (q2 : ¬ (16 : Int32) < n) :
    MetFree l (⟨"com/example/ample_gap/amplegap/simulation/Road", "<init>", "(DIZ)V"⟩ : MethodName) (head1 (Jvm.Cond.code (⟨"com/example/ample_gap/amplegap/simulation/Road", "<init>", "(DIZ)V"⟩ : MethodName) prog_49_method_3_code 5 none :: ws) ({ frames := 4, cells := 2, slots := 48, locals := 55 } : Room)) (fun ar_ U => ar_ = #[(.ref a), (.double d), (.int n), (.int (0 : Int32))] ∧ Z.Warmed39 U.vm ∧ U.heap = h0) (fun _ _ _ _ _ => True) (fun _ U o U' => ∃ v L, o = .returned v ∧ QD_ Z a d n (0 : Int32) h0 n0 v U'.heap L ∧ ReturnedEndW U o U' L ({ frames := 4, cells := 2, slots := 48, locals := 55 } : Room).cells ({ frames := 4, cells := 2, slots := 48, locals := 55 } : Room).slots) := by
  refine MetFree.of_bodySF (plainFor_of_name own_h103) hisR ?_
  intro p e s m args below meth c s₁ Bd hml0 hP hK
  obtain ⟨rfl, hZ, hh⟩ := hP
  have hx := Bd.exec
  have hby := Bd.bytes
  have hml : c.maxLocals = 5 := hml0
  have hown : s.vm.findClass "com/example/ample_gap/amplegap/simulation/Road" = some m.cls := findClass_of_methodNamed Bd.named
  have hnm := (name_of_methodNamed Bd.named Bd.method).1
  have X0 : Stand p l e ({ frames := 4, cells := 2, slots := 48, locals := 55 } : Room) (s.setVm s.vm) m #[(.ref a), (.double d), (.int n), (.int (0 : Int32))] below meth c s₁ [] 0 0 := Stand.of_body Bd
  have hS0 : s.Since s.vm 0 := (State.WarmedH.refl s).since 0
  have hk0 : 0 ≤ h0.size := Nat.zero_le _
  have hZ : Z.Warmed39 (s.setVm s.vm).vm := hZ
  have hown : (s.setVm s.vm).vm.findClass "com/example/ample_gap/amplegap/simulation/Road" = some m.cls := hown
  have e0 : s₁.heap = h0 := by rw [← hh, Bd.state]; rfl
  have N0 := Fr.nil n0
  have k0 : own_K p e below (s₁.setTop (mkF m 0 #[.val (.ref a), .val (.double d), .second, .val (.int n), .val (.int (0 : Int32))] [])) (s₁.setTop (entryFrame m #[(.ref a), (.double d), (.int n), (.int (0 : Int32))] 5)) := fun t k => castTop (by clear k; first | (simp [entryFrame, mkF, argsToLocals, Value.category, maxLocals]; done) | rfl) k
  have K0 : Keep h0 h0 [a] := Keep.refl _ _
  have k1 : own_K p e below (s₁.setTop (mkF m 1 #[.val (.ref a), .val (.double d), .second, .val (.int n), .val (.int (0 : Int32))] [(.ref a)])) (s₁.setTop (entryFrame m #[(.ref a), (.double d), (.int n), (.int (0 : Int32))] 5)) := fun t hh => k0 t (by
    refine XS.aloadN X0.here hx rfl (hb hby own_h70) rfl rfl ?_
    show Steps p.tables e below (s₁.setTop (mkF m 1 #[.val (.ref a), .val (.double d), .second, .val (.int n), .val (.int (0 : Int32))] [(.ref a)])) _
    exact hh)
  obtain ⟨T47, X48, e49, st50⟩ := initO X0 hx hZ hown (wT hw 10 rfl) (wT hw 11 rfl) (wT hw 12 rfl) e0 (g := (mkF m 1 #[.val (.ref a), .val (.double d), .second, .val (.int n), .val (.int (0 : Int32))] [(.ref a)])) rfl (by rw [hml]; rfl) rfl (hb hby own_h71) (by decide) (W := 0) (by show 2 * 0 + _ ≤ _; exact Nat.le_of_eq rfl) (by decide)
  have k2 : own_K p e below (T47.setTop (mkF m 4 #[.val (.ref a), .val (.double d), .second, .val (.int n), .val (.int (0 : Int32))] [])) (s₁.setTop (entryFrame m #[(.ref a), (.double d), (.int n), (.int (0 : Int32))] 5)) := fun t hh => k1 t (st50 t hh)
  have k3 : own_K p e below (T47.setTop (mkF m 40 #[.val (.ref a), .val (.double d), .second, .val (.int n), .val (.int (0 : Int32))] [(.ref a)])) (s₁.setTop (entryFrame m #[(.ref a), (.double d), (.int n), (.int (0 : Int32))] 5)) := fun t hh => k2 t (by
    refine XS.iloadN X48.here hx rfl (hb hby own_h72) rfl ?_
    show Steps p.tables e below (T47.setTop (mkF m 5 #[.val (.ref a), .val (.double d), .second, .val (.int n), .val (.int (0 : Int32))] [(.int n)])) _
    refine XS.iconst X48.here hx rfl (hb hby own_h73) ?_
    show Steps p.tables e below (T47.setTop (mkF m 6 #[.val (.ref a), .val (.double d), .second, .val (.int n), .val (.int (0 : Int32))] [(.int (1 : Int32)), (.int n)])) _
    refine XS.icmpNo X48.here hx rfl (hb hby own_h74) rfl (own_icF_lt q1) ?_
    show Steps p.tables e below (T47.setTop (mkF m 9 #[.val (.ref a), .val (.double d), .second, .val (.int n), .val (.int (0 : Int32))] [])) _
    refine XS.iloadN X48.here hx rfl (hb hby own_h75) rfl ?_
    show Steps p.tables e below (T47.setTop (mkF m 10 #[.val (.ref a), .val (.double d), .second, .val (.int n), .val (.int (0 : Int32))] [(.int n)])) _
    refine XS.bipush X48.here hx rfl (hb hby own_h76) ?_
    show Steps p.tables e below (T47.setTop (mkF m 12 #[.val (.ref a), .val (.double d), .second, .val (.int n), .val (.int (0 : Int32))] [(.int (16 : Int32)), (.int n)])) _
    refine XS.icmpYes X48.here hx rfl (pc0 := 12) (pc' := 29) rfl (hb hby own_h77) rfl (own_icT_le q2) (by decide) (by decide) ?_
    show Steps p.tables e below (T47.setTop (mkF m 29 #[.val (.ref a), .val (.double d), .second, .val (.int n), .val (.int (0 : Int32))] [])) _
    refine XS.aloadN X48.here hx rfl (hb hby own_h84) rfl rfl ?_
    show Steps p.tables e below (T47.setTop (mkF m 30 #[.val (.ref a), .val (.double d), .second, .val (.int n), .val (.int (0 : Int32))] [(.ref a)])) _
    refine XS.iload X48.here hx rfl (hb hby own_h85) rfl ?_
    show Steps p.tables e below (T47.setTop (mkF m 32 #[.val (.ref a), .val (.double d), .second, .val (.int n), .val (.int (0 : Int32))] [(.int (0 : Int32)), (.ref a)])) _
    refine XS.ifYes X48.here hx rfl (pc0 := 32) (pc' := 40) rfl (hb hby own_h86) rfl (by decide) (by decide) (by decide) ?_
    show Steps p.tables e below (T47.setTop (mkF m 40 #[.val (.ref a), .val (.double d), .second, .val (.int n), .val (.int (0 : Int32))] [(.ref a)])) _
    exact hh)
  obtain ⟨a51, T52, h53, k_54, X55, e56, E57, hS58, hk59, hZ60, hown61, st62⟩ := ldcS X48 hx hZ hown (wT hw 13 rfl) (own_strAtoms hw) e49 hS0 hk0 (g := (mkF m 40 #[.val (.ref a), .val (.double d), .second, .val (.int n), .val (.int (0 : Int32))] [(.ref a)])) rfl (hb hby own_h89) (n := 44) (by decide) (by decide) (by decide) (by decide)
  have F63 := Exa.ext (h' := h53) E57 E1
  have F64 := Fld.ext (h' := h53) E57 F1
  have F65 := Fld.ext (h' := h53) E57 F2
  have F66 := Fld.ext (h' := h53) E57 F3
  have F67 := Fld.ext (h' := h53) E57 F4
  have Z68 : n0 ≤ h53.size := Nat.le_trans Z0 E57.1
  have P69 : Keep h0 h53 [a] := K0.ext E57
  have k4 : own_K p e below (T52.setTop (mkF m 42 #[.val (.ref a), .val (.double d), .second, .val (.int n), .val (.int (0 : Int32))] [(.ref a51), (.ref a)])) (s₁.setTop (entryFrame m #[(.ref a), (.double d), (.int n), (.int (0 : Int32))] 5)) := fun t hh => k3 t (st62 t hh)
  have k5 : own_K p e below (T52.setTop (mkF m 43 #[.val (.ref a), .val (.double d), .second, .val (.int n), .val (.int (0 : Int32))] [(.double d), (.ref a51), (.ref a)])) (s₁.setTop (entryFrame m #[(.ref a), (.double d), (.int n), (.int (0 : Int32))] 5)) := fun t hh => k4 t (by
    refine XS.dloadN X55.here hx rfl (hb hby own_h90) rfl ?_
    show Steps p.tables e below (T52.setTop (mkF m 43 #[.val (.ref a), .val (.double d), .second, .val (.int n), .val (.int (0 : Int32))] [(.double d), (.ref a51), (.ref a)])) _
    exact hh)
  obtain ⟨_, _, ⟨T70, L71, k_72, n_73⟩, -, X74, ⟨Lc75, hQ76, l_77, y_78, z_79⟩, st80⟩ := Jvm.LawKit.callS X55 hx (y := (⟨"com/example/ample_gap/amplegap/model/Ranges", "requirePositive", "(Ljava/lang/String;D)D"⟩ : MethodName)) hown61 (mvT hZ60 (wT hw 21 rfl)) (mvT hZ60 (wT hw 22 rfl)) (mvT hZ60 (wT hw 23 rfl)) (mvT hZ60 (wT hw 24 rfl)) (by decide) (backOf (W := 1) (rmRp l Z a0 hw [] a51 d h53 n0 Z68 n1 n2 n3) hZ60 (wT hw 24 rfl) (wT hw 23 rfl) (by decide) (by decide)) (g := (mkF m 43 #[.val (.ref a), .val (.double d), .second, .val (.int n), .val (.int (0 : Int32))] [(.double d), (.ref a51), (.ref a)])) rfl (by rw [hml]; rfl) (argsL := [(.ref a51), (.double d)]) (rest := [(.ref a)]) (lenOf own_h14 rfl) rfl (by show 2 * 0 + _ ≤ _; exact Nat.le_of_eq rfl) (hb hby own_h91) (fun _ _ => ⟨rfl, e56, (by decide : 2 + 0 ≤ _), (by decide : 48 + 0 ≤ _)⟩)
  dsimp only [Pt.U, Pt.locs, Pt.cells, Pt.slots] at X74 l_77 y_78 z_79 st80 hQ76
  subst l_77 y_78 z_79
  obtain ⟨rfl, N81, e82⟩ := hQ76
  have N83 := Fr.app N0 N81
  have k6 : own_K p e below (T70.setTop (mkF m 46 #[.val (.ref a), .val (.double d), .second, .val (.int n), .val (.int (0 : Int32))] [(.double d), (.ref a)])) (s₁.setTop (entryFrame m #[(.ref a), (.double d), (.int n), (.int (0 : Int32))] 5)) := fun t hh => k5 t (st80 t hh)
  obtain ⟨T84, h85, X86, e87, W88, st89⟩ := putF X74 hx hZ60 hown61 (host := "") (Or.inl (wT hw 37 rfl)) Via.refl e82 F64 F63 (Or.inr ⟨(wT hw 38 rfl), rfl, hnm⟩) (wT hw 2 rfl) (ty := .double) (by decide) rfl rfl (g := (mkF m 46 #[.val (.ref a), .val (.double d), .second, .val (.int n), .val (.int (0 : Int32))] [(.double d), (.ref a)])) rfl rfl (hb hby own_h92)
  have N90 := Fr.snoc X86 N83 g1
  have hk91 := Nat.le_trans hk59 (show h53.size ≤ h85.size from Nat.le_of_eq W88.size.symm)
  have F92 := Exa.wr W88 F63
  have F93 : Fld Z h85 a "com/example/ample_gap/amplegap/simulation/Road" "length" "D" (.double d) := Fld.same W88 F64
  have F94 := Fld.other W88 F65 (Or.inr (slot_ne (Or.inr (wT hw 40 rfl)) (Or.inr (wT hw 38 rfl)) (by decide) (t := .int) (t' := .double) (by decide) (by decide)))
  have F95 := Fld.other W88 F66 (Or.inr (slot_ne (Or.inr (wT hw 42 rfl)) (Or.inr (wT hw 38 rfl)) (by decide) (t := .boolean) (t' := .double) (by decide) (by decide)))
  have F96 := Fld.other W88 F67 (Or.inr (slot_ne (Or.inr (wT hw 44 rfl)) (Or.inr (wT hw 38 rfl)) (by decide) (t := (.object "com/example/ample_gap/amplegap/simulation/OnRamp")) (t' := .double) (by decide) (by decide)))
  have Z97 : n0 ≤ h85.size := W88.size ▸ Z68
  have P98 : Keep h0 h85 [a] := P69.wr W88 (Or.inl (List.mem_of_getElem? (i := 0) rfl))
  have k7 : own_K p e below (T84.setTop (mkF m 49 #[.val (.ref a), .val (.double d), .second, .val (.int n), .val (.int (0 : Int32))] [])) (s₁.setTop (entryFrame m #[(.ref a), (.double d), (.int n), (.int (0 : Int32))] 5)) := fun t hh => k6 t (st89 t hh)
  have k8 : own_K p e below (T84.setTop (mkF m 51 #[.val (.ref a), .val (.double d), .second, .val (.int n), .val (.int (0 : Int32))] [(.int n), (.ref a)])) (s₁.setTop (entryFrame m #[(.ref a), (.double d), (.int n), (.int (0 : Int32))] 5)) := fun t hh => k7 t (by
    refine XS.aloadN X86.here hx rfl (hb hby own_h93) rfl rfl ?_
    show Steps p.tables e below (T84.setTop (mkF m 50 #[.val (.ref a), .val (.double d), .second, .val (.int n), .val (.int (0 : Int32))] [(.ref a)])) _
    refine XS.iloadN X86.here hx rfl (hb hby own_h94) rfl ?_
    show Steps p.tables e below (T84.setTop (mkF m 51 #[.val (.ref a), .val (.double d), .second, .val (.int n), .val (.int (0 : Int32))] [(.int n), (.ref a)])) _
    exact hh)
  obtain ⟨T99, h100, X101, e102, W103, st104⟩ := putF X86 hx hZ60 hown61 (host := "") (Or.inl (wT hw 39 rfl)) Via.refl e87 F94 F92 (Or.inr ⟨(wT hw 40 rfl), rfl, hnm⟩) (wT hw 2 rfl) (ty := .int) (by decide) rfl rfl (g := (mkF m 51 #[.val (.ref a), .val (.double d), .second, .val (.int n), .val (.int (0 : Int32))] [(.int n), (.ref a)])) rfl rfl (hb hby own_h95)
  have N105 := Fr.snoc X101 N90 g1
  have hk106 := Nat.le_trans hk91 (show h85.size ≤ h100.size from Nat.le_of_eq W103.size.symm)
  have F107 := Exa.wr W103 F92
  have F108 := Fld.other W103 F93 (Or.inr (slot_ne (Or.inr (wT hw 38 rfl)) (Or.inr (wT hw 40 rfl)) (by decide) (t := .double) (t' := .int) (by decide) (by decide)))
  have F109 : Fld Z h100 a "com/example/ample_gap/amplegap/simulation/Road" "lanes" "I" (.int n) := Fld.same W103 F94
  have F110 := Fld.other W103 F95 (Or.inr (slot_ne (Or.inr (wT hw 42 rfl)) (Or.inr (wT hw 40 rfl)) (by decide) (t := .boolean) (t' := .int) (by decide) (by decide)))
  have F111 := Fld.other W103 F96 (Or.inr (slot_ne (Or.inr (wT hw 44 rfl)) (Or.inr (wT hw 40 rfl)) (by decide) (t := (.object "com/example/ample_gap/amplegap/simulation/OnRamp")) (t' := .int) (by decide) (by decide)))
  have Z112 : n0 ≤ h100.size := W103.size ▸ Z97
  have P113 : Keep h0 h100 [a] := P98.wr W103 (Or.inl (List.mem_of_getElem? (i := 0) rfl))
  have k9 : own_K p e below (T99.setTop (mkF m 54 #[.val (.ref a), .val (.double d), .second, .val (.int n), .val (.int (0 : Int32))] [])) (s₁.setTop (entryFrame m #[(.ref a), (.double d), (.int n), (.int (0 : Int32))] 5)) := fun t hh => k8 t (st104 t hh)
  have k10 : own_K p e below (T99.setTop (mkF m 57 #[.val (.ref a), .val (.double d), .second, .val (.int n), .val (.int (0 : Int32))] [(.int (0 : Int32)), (.ref a)])) (s₁.setTop (entryFrame m #[(.ref a), (.double d), (.int n), (.int (0 : Int32))] 5)) := fun t hh => k9 t (by
    refine XS.aloadN X101.here hx rfl (hb hby own_h96) rfl rfl ?_
    show Steps p.tables e below (T99.setTop (mkF m 55 #[.val (.ref a), .val (.double d), .second, .val (.int n), .val (.int (0 : Int32))] [(.ref a)])) _
    refine XS.iload X101.here hx rfl (hb hby own_h97) rfl ?_
    show Steps p.tables e below (T99.setTop (mkF m 57 #[.val (.ref a), .val (.double d), .second, .val (.int n), .val (.int (0 : Int32))] [(.int (0 : Int32)), (.ref a)])) _
    exact hh)
  obtain ⟨T114, h115, X116, e117, W118, st119⟩ := putF X101 hx hZ60 hown61 (host := "") (Or.inl (wT hw 41 rfl)) Via.refl e102 F110 F107 (Or.inr ⟨(wT hw 42 rfl), rfl, hnm⟩) (wT hw 2 rfl) (ty := .boolean) (by decide) rfl rfl (g := (mkF m 57 #[.val (.ref a), .val (.double d), .second, .val (.int n), .val (.int (0 : Int32))] [(.int (0 : Int32)), (.ref a)])) rfl rfl (hb hby own_h98)
  have N120 := Fr.snoc X116 N105 g1
  have hk121 := Nat.le_trans hk106 (show h100.size ≤ h115.size from Nat.le_of_eq W118.size.symm)
  have F122 := Exa.wr W118 F107
  have F123 := Fld.other W118 F108 (Or.inr (slot_ne (Or.inr (wT hw 38 rfl)) (Or.inr (wT hw 42 rfl)) (by decide) (t := .double) (t' := .boolean) (by decide) (by decide)))
  have F124 := Fld.other W118 F109 (Or.inr (slot_ne (Or.inr (wT hw 40 rfl)) (Or.inr (wT hw 42 rfl)) (by decide) (t := .int) (t' := .boolean) (by decide) (by decide)))
  have F125 : Fld Z h115 a "com/example/ample_gap/amplegap/simulation/Road" "ring" "Z" (.int (0 : Int32)) := Fld.same W118 F110
  have F126 := Fld.other W118 F111 (Or.inr (slot_ne (Or.inr (wT hw 44 rfl)) (Or.inr (wT hw 42 rfl)) (by decide) (t := (.object "com/example/ample_gap/amplegap/simulation/OnRamp")) (t' := .boolean) (by decide) (by decide)))
  have Z127 : n0 ≤ h115.size := W118.size ▸ Z112
  have P128 : Keep h0 h115 [a] := P113.wr W118 (Or.inl (List.mem_of_getElem? (i := 0) rfl))
  have k11 : own_K p e below (T114.setTop (mkF m 60 #[.val (.ref a), .val (.double d), .second, .val (.int n), .val (.int (0 : Int32))] [])) (s₁.setTop (entryFrame m #[(.ref a), (.double d), (.int n), (.int (0 : Int32))] 5)) := fun t hh => k10 t (st119 t hh)
  have k12 : own_K p e below (T114.setTop (mkF m 62 #[.val (.ref a), .val (.double d), .second, .val (.int n), .val (.int (0 : Int32))] [.null, (.ref a)])) (s₁.setTop (entryFrame m #[(.ref a), (.double d), (.int n), (.int (0 : Int32))] 5)) := fun t hh => k11 t (by
    refine XS.aloadN X116.here hx rfl (hb hby own_h99) rfl rfl ?_
    show Steps p.tables e below (T114.setTop (mkF m 61 #[.val (.ref a), .val (.double d), .second, .val (.int n), .val (.int (0 : Int32))] [(.ref a)])) _
    refine XS.aconstNull X116.here hx rfl (hb hby own_h100) ?_
    show Steps p.tables e below (T114.setTop (mkF m 62 #[.val (.ref a), .val (.double d), .second, .val (.int n), .val (.int (0 : Int32))] [.null, (.ref a)])) _
    exact hh)
  obtain ⟨T129, h130, X131, e132, W133, st134⟩ := putF X116 hx hZ60 hown61 (host := "") (Or.inl (wT hw 43 rfl)) Via.refl e117 F126 F122 (Or.inr ⟨(wT hw 44 rfl), rfl, hnm⟩) (wT hw 2 rfl) (ty := .object "com/example/ample_gap/amplegap/simulation/OnRamp") (by decide) rfl rfl (g := (mkF m 62 #[.val (.ref a), .val (.double d), .second, .val (.int n), .val (.int (0 : Int32))] [.null, (.ref a)])) rfl rfl (hb hby own_h101)
  have N135 := Fr.snoc X131 N120 g1
  have hk136 := Nat.le_trans hk121 (show h115.size ≤ h130.size from Nat.le_of_eq W133.size.symm)
  have F137 := Exa.wr W133 F122
  have F138 := Fld.other W133 F123 (Or.inr (slot_ne (Or.inr (wT hw 38 rfl)) (Or.inr (wT hw 44 rfl)) (by decide) (t := .double) (t' := (.object "com/example/ample_gap/amplegap/simulation/OnRamp")) (by decide) (by decide)))
  have F139 := Fld.other W133 F124 (Or.inr (slot_ne (Or.inr (wT hw 40 rfl)) (Or.inr (wT hw 44 rfl)) (by decide) (t := .int) (t' := (.object "com/example/ample_gap/amplegap/simulation/OnRamp")) (by decide) (by decide)))
  have F140 := Fld.other W133 F125 (Or.inr (slot_ne (Or.inr (wT hw 42 rfl)) (Or.inr (wT hw 44 rfl)) (by decide) (t := .boolean) (t' := (.object "com/example/ample_gap/amplegap/simulation/OnRamp")) (by decide) (by decide)))
  have F141 : Fld Z h130 a "com/example/ample_gap/amplegap/simulation/Road" "onRamp" "Lcom/example/ample_gap/amplegap/simulation/OnRamp;" .null := Fld.same W133 F126
  have Z142 : n0 ≤ h130.size := W133.size ▸ Z127
  have P143 : Keep h0 h130 [a] := P128.wr W133 (Or.inl (List.mem_of_getElem? (i := 0) rfl))
  have k13 : own_K p e below (T129.setTop (mkF m 65 #[.val (.ref a), .val (.double d), .second, .val (.int n), .val (.int (0 : Int32))] [])) (s₁.setTop (entryFrame m #[(.ref a), (.double d), (.int n), (.int (0 : Int32))] 5)) := fun t hh => k12 t (st134 t hh)
  obtain ⟨fs, hr, hrun, hended, hEnd⟩ := X131.leaveW hS58 (by rw [e132]; exact hk136) (v := none) (fun _ => rfl)
  refine ⟨_, _, k13 _ (X131.returnOut hx Bd.returns (hb hby own_h102) hr), hrun, hended, _, _, rfl, ?_, hEnd.1, hEnd.2.1, hEnd.2.2.1, hEnd.2.2.2.mono (by decide) (by decide)⟩
  show QD_ Z a d n (0 : Int32) h0 n0 _ T129.heap _
  rw [e132]
  exact ⟨rfl, N135, P143, F137, F138, F139, F140, F141⟩
theorem own_h104 : decode prog_49_method_1_code 0 = .ok (.aload_n 0, 1) := by decide +kernel
theorem own_h105 : decode prog_49_method_1_code 1 = .ok (.dload_n 1, 1) := by decide +kernel
theorem own_h106 : decode prog_49_method_1_code 2 = .ok (.iconst 1, 1) := by decide +kernel
theorem own_h107 : decode prog_49_method_1_code 3 = .ok (.iconst 0, 1) := by decide +kernel
theorem own_h108 : decode prog_49_method_1_code 4 = .ok (.invokespecial 1, 3) := by decide +kernel
theorem own_h109 : decode prog_49_method_1_code 7 = .ok (.return_, 1) := by decide +kernel
set_option maxRecDepth 65536 in
set_option maxHeartbeats 40000000 in
theorem rmC1 (l : Launch) (Z : State) (a0 : Array Value) (hw : ∀ d ∈ tables_1, d.before a0 Z = true) (ws : List Jvm.Cond) (a : Addr) (d : UInt64) (h0 : Heap) (n0 : Nat) (Z0 : n0 ≤ h0.size) (E1 : Exa Z h0 a "com/example/ample_gap/amplegap/simulation/Road") (g1 : n0 ≤ a) (F1 : Fld Z h0 a "com/example/ample_gap/amplegap/simulation/Road" "length" "D" (.double (0 : UInt64))) (F2 : Fld Z h0 a "com/example/ample_gap/amplegap/simulation/Road" "lanes" "I" (.int (0 : Int32))) (F3 : Fld Z h0 a "com/example/ample_gap/amplegap/simulation/Road" "ring" "Z" (.int (0 : Int32))) (F4 : Fld Z h0 a "com/example/ample_gap/amplegap/simulation/Road" "onRamp" "Lcom/example/ample_gap/amplegap/simulation/OnRamp;" .null) (n1 : Jvm.Free.Fl.NoNaN64 d) (n2 : (¬ 0 < cmpValue (FP.dcmp (d &&& (0x7fffffffffffffff : UInt64)) (9218868437227405311 : UInt64)) .g)) (n3 : cmpValue (FP.dcmp d FP.dconst0) .g = 1) :
    MetFree l (⟨"com/example/ample_gap/amplegap/simulation/Road", "<init>", "(D)V"⟩ : MethodName) (head1 (Jvm.Cond.code (⟨"com/example/ample_gap/amplegap/simulation/Road", "<init>", "(D)V"⟩ : MethodName) prog_49_method_1_code 3 none :: ws) ({ frames := 5, cells := 2, slots := 48, locals := 71 } : Room)) (fun ar_ U => ar_ = #[(.ref a), (.double d)] ∧ Z.Warmed39 U.vm ∧ U.heap = h0) (fun _ _ _ _ _ => True) (fun _ U o U' => ∃ v L, o = .returned v ∧ QD_ Z a d (1 : Int32) (0 : Int32) h0 n0 v U'.heap L ∧ ReturnedEndW U o U' L ({ frames := 5, cells := 2, slots := 48, locals := 71 } : Room).cells ({ frames := 5, cells := 2, slots := 48, locals := 71 } : Room).slots) := by
  refine MetFree.of_bodySF (plainFor_of_name own_h103) hisR ?_
  intro p e s m args below meth c s₁ Bd hml0 hP hK
  obtain ⟨rfl, hZ, hh⟩ := hP
  have hx := Bd.exec
  have hby := Bd.bytes
  have hml : c.maxLocals = 3 := hml0
  have hown : s.vm.findClass "com/example/ample_gap/amplegap/simulation/Road" = some m.cls := findClass_of_methodNamed Bd.named
  have hnm := (name_of_methodNamed Bd.named Bd.method).1
  have X0 : Stand p l e ({ frames := 5, cells := 2, slots := 48, locals := 71 } : Room) (s.setVm s.vm) m #[(.ref a), (.double d)] below meth c s₁ [] 0 0 := Stand.of_body Bd
  have hS0 : s.Since s.vm 0 := (State.WarmedH.refl s).since 0
  have hk0 : 0 ≤ h0.size := Nat.zero_le _
  have hZ : Z.Warmed39 (s.setVm s.vm).vm := hZ
  have hown : (s.setVm s.vm).vm.findClass "com/example/ample_gap/amplegap/simulation/Road" = some m.cls := hown
  have e0 : s₁.heap = h0 := by rw [← hh, Bd.state]; rfl
  have N0 := Fr.nil n0
  have k0 : own_K p e below (s₁.setTop (mkF m 0 #[.val (.ref a), .val (.double d), .second] [])) (s₁.setTop (entryFrame m #[(.ref a), (.double d)] 3)) := fun t k => castTop (by clear k; first | (simp [entryFrame, mkF, argsToLocals, Value.category, maxLocals]; done) | rfl) k
  have K0 : Keep h0 h0 [a] := Keep.refl _ _
  have k1 : own_K p e below (s₁.setTop (mkF m 4 #[.val (.ref a), .val (.double d), .second] [(.int (0 : Int32)), (.int (1 : Int32)), (.double d), (.ref a)])) (s₁.setTop (entryFrame m #[(.ref a), (.double d)] 3)) := fun t hh => k0 t (by
    refine XS.aloadN X0.here hx rfl (hb hby own_h104) rfl rfl ?_
    show Steps p.tables e below (s₁.setTop (mkF m 1 #[.val (.ref a), .val (.double d), .second] [(.ref a)])) _
    refine XS.dloadN X0.here hx rfl (hb hby own_h105) rfl ?_
    show Steps p.tables e below (s₁.setTop (mkF m 2 #[.val (.ref a), .val (.double d), .second] [(.double d), (.ref a)])) _
    refine XS.iconst X0.here hx rfl (hb hby own_h106) ?_
    show Steps p.tables e below (s₁.setTop (mkF m 3 #[.val (.ref a), .val (.double d), .second] [(.int (1 : Int32)), (.double d), (.ref a)])) _
    refine XS.iconst X0.here hx rfl (hb hby own_h107) ?_
    show Steps p.tables e below (s₁.setTop (mkF m 4 #[.val (.ref a), .val (.double d), .second] [(.int (0 : Int32)), (.int (1 : Int32)), (.double d), (.ref a)])) _
    exact hh)
  obtain ⟨_, _, ⟨T144, L145, k_146, n_147⟩, -, X148, hSc155, hgr156, ⟨Lc149, hQ150, l_151, y_152, z_153⟩, st154⟩ := X0.specialBackS hx (y := (⟨"com/example/ample_gap/amplegap/simulation/Road", "<init>", "(DIZ)V"⟩ : MethodName)) rfl hown (mvT hZ (wT hw 7 rfl)) (mvT hZ (wT hw 8 rfl)) (mvT hZ (wT hw 9 rfl)) (by decide) (backOfS (W := 0) (rmD0 l Z a0 hw [] a d (1 : Int32) h0 n0 Z0 E1 g1 F1 F2 F3 F4 n1 n2 n3 (by decide) (by decide)) hZ (wT hw 9 rfl) (wT hw 3 rfl) (by decide) (by decide)) (g := (mkF m 4 #[.val (.ref a), .val (.double d), .second] [(.int (0 : Int32)), (.int (1 : Int32)), (.double d), (.ref a)])) rfl (by rw [hml]; rfl) (Steps.refl _) (a := a) (argsL := [(.double d), (.int (1 : Int32)), (.int (0 : Int32))]) (rest := []) (lenOf own_h12 rfl) rfl (by show 2 * 0 + _ ≤ _; exact Nat.le_of_eq rfl) (hb hby own_h108) (fun _ _ => ⟨rfl, e0, (by decide : 0 + 2 ≤ _), (by decide : 0 + 48 ≤ _)⟩)
  dsimp only [Pt.U, Pt.locs, Pt.cells, Pt.slots] at X148 hSc155 hgr156 l_151 y_152 z_153 st154 hQ150
  subst l_151 y_152 z_153
  obtain ⟨X158, hS159, hZ160, hown161⟩ := rebS hS0 (by rw [e0]; exact hk0) X148 hSc155 hgr156 hZ hown
  obtain ⟨rfl, N162, K163, E164, F165, F166, F167, F168⟩ := hQ150
  have N169 := Fr.app N0 N162
  have F170 := E1.keep K163
  have Z171 : n0 ≤ T144.heap.size := Nat.le_trans Z0 K163.1
  have hk172 := Nat.le_trans hk0 (show h0.size ≤ T144.heap.size from K163.1)
  have P173 : Keep h0 T144.heap [a] := K0.trans K163 (allS (P := fun x => x ∈ [a] ∨ h0.size ≤ x) (Or.inl (List.mem_of_getElem? (i := 0) rfl)) all0)
  have e174 : T144.heap = T144.heap := rfl
  have k2 : own_K p e below (T144.setTop (mkF m 7 #[.val (.ref a), .val (.double d), .second] [])) (s₁.setTop (entryFrame m #[(.ref a), (.double d)] 3)) := fun t hh => k1 t (st154.trans hh)
  obtain ⟨fs, hr, hrun, hended, hEnd⟩ := X158.leaveW hS159 (by rw [e174]; exact (Nat.le_refl T144.heap.size)) (v := none) (fun _ => rfl)
  refine ⟨_, _, k2 _ (X158.returnOut hx Bd.returns (hb hby own_h109) hr), hrun, hended, _, _, rfl, ?_, hEnd.1, hEnd.2.1, hEnd.2.2.1, hEnd.2.2.2.mono (by decide) (by decide)⟩
  show QD_ Z a d (1 : Int32) (0 : Int32) h0 n0 _ T144.heap _
  rw [e174]
  exact ⟨rfl, N169, P173, E164, F165, F166, F167, F168⟩
def QO (Z : State) (a : Addr) (x y : UInt64) (h0 : Heap) (n0 : Nat) (v : Option Value) (h : Heap) (L : List Loc) : Prop := v = none ∧ Fr n0 L ∧ Keep h0 h [a] ∧ Exa Z h a "com/example/ample_gap/amplegap/simulation/OnRamp" ∧ Fld Z h a "com/example/ample_gap/amplegap/simulation/OnRamp" "end" "D" (.double y)
theorem own_h110 : decode prog_45_method_1_code 0 = .ok (.aload_n 0, 1) := by decide +kernel
theorem own_h111 : decode prog_45_method_1_code 1 = .ok (.invokespecial 1, 3) := by decide +kernel
theorem own_h112 : decode prog_45_method_1_code 4 = .ok (.ldc 7, 2) := by decide +kernel
theorem own_h113 : decode prog_45_method_1_code 6 = .ok (.dload_n 1, 1) := by decide +kernel
theorem own_h114 : decode prog_45_method_1_code 7 = .ok (.invokestatic 9, 3) := by decide +kernel
theorem own_h115 : decode prog_45_method_1_code 10 = .ok (.pop2, 1) := by decide +kernel
theorem own_h116 : decode prog_45_method_1_code 11 = .ok (.ldc 15, 2) := by decide +kernel
theorem own_h117 : decode prog_45_method_1_code 13 = .ok (.dload_n 3, 1) := by decide +kernel
theorem own_h118 : decode prog_45_method_1_code 14 = .ok (.invokestatic 17, 3) := by decide +kernel
theorem own_h119 : decode prog_45_method_1_code 17 = .ok (.pop2, 1) := by decide +kernel
theorem own_h120 : decode prog_45_method_1_code 18 = .ok (.dload_n 3, 1) := by decide +kernel
theorem own_h121 : decode prog_45_method_1_code 19 = .ok (.dload_n 1, 1) := by decide +kernel
theorem own_h122 : decode prog_45_method_1_code 20 = .ok (.dcmp .l, 1) := by decide +kernel
theorem own_h123 : decode prog_45_method_1_code 21 = .ok (.ifCond .gt 18, 3) := by decide +kernel
theorem own_h124 : decode prog_45_method_1_code 24 = .ok (.new 20, 3) := by decide +kernel
theorem own_h125 : decode prog_45_method_1_code 27 = .ok (.dup, 1) := by decide +kernel
theorem own_h126 : decode prog_45_method_1_code 28 = .ok (.dload_n 1, 1) := by decide +kernel
theorem own_h127 : decode prog_45_method_1_code 29 = .ok (.dload_n 3, 1) := by decide +kernel
theorem own_h128 : decode prog_45_method_1_code 30 = .ok (.invokedynamic 22, 5) := by decide +kernel
theorem own_h129 : decode prog_45_method_1_code 35 = .ok (.invokespecial 26, 3) := by decide +kernel
theorem own_h130 : decode prog_45_method_1_code 38 = .ok (.athrow, 1) := by decide +kernel
theorem own_h131 : decode prog_45_method_1_code 39 = .ok (.aload_n 0, 1) := by decide +kernel
theorem own_h132 : decode prog_45_method_1_code 40 = .ok (.dload_n 1, 1) := by decide +kernel
theorem own_h133 : decode prog_45_method_1_code 41 = .ok (.putfield 29, 3) := by decide +kernel
theorem own_h134 : decode prog_45_method_1_code 44 = .ok (.aload_n 0, 1) := by decide +kernel
theorem own_h135 : decode prog_45_method_1_code 45 = .ok (.dload_n 3, 1) := by decide +kernel
theorem own_h136 : decode prog_45_method_1_code 46 = .ok (.putfield 35, 3) := by decide +kernel
theorem own_h137 : decode prog_45_method_1_code 49 = .ok (.return_, 1) := by decide +kernel
theorem own_h138 : plainName "com/example/ample_gap/amplegap/simulation/OnRamp" = true := by first | (simp [plainName, overriddenIn]; done) | decide +kernel
set_option maxRecDepth 65536 in
set_option maxHeartbeats 40000000 in
theorem rmO (l : Launch) (Z : State) (a0 : Array Value) (hw : ∀ d ∈ tables_1, d.before a0 Z = true) (ws : List Jvm.Cond) (a : Addr) (x y : UInt64) (h0 : Heap) (n0 : Nat) (Z0 : n0 ≤ h0.size) (E1 : Exa Z h0 a "com/example/ample_gap/amplegap/simulation/OnRamp") (g1 : n0 ≤ a) (F1 : Fld Z h0 a "com/example/ample_gap/amplegap/simulation/OnRamp" "start" "D" (.double (0 : UInt64))) (F2 : Fld Z h0 a "com/example/ample_gap/amplegap/simulation/OnRamp" "end" "D" (.double (0 : UInt64))) (n1 : Jvm.Free.Fl.NoNaN64 x) (n2 : (¬ 0 < cmpValue (FP.dcmp (x &&& (0x7fffffffffffffff : UInt64)) (9218868437227405311 : UInt64)) .g)) (n3 : ¬ cmpValue (FP.dcmp x FP.dconst0) .g < 0) (n4 : Jvm.Free.Fl.NoNaN64 y) (n5 : (¬ 0 < cmpValue (FP.dcmp (y &&& (0x7fffffffffffffff : UInt64)) (9218868437227405311 : UInt64)) .g)) (n6 : cmpValue (FP.dcmp y x) .l = 1) :
    MetFree l (⟨"com/example/ample_gap/amplegap/simulation/OnRamp", "<init>", "(DD)V"⟩ : MethodName) (head1 (Jvm.Cond.code (⟨"com/example/ample_gap/amplegap/simulation/OnRamp", "<init>", "(DD)V"⟩ : MethodName) prog_45_method_1_code 5 none :: ws) ({ frames := 4, cells := 4, slots := 104, locals := 54 } : Room)) (fun ar_ U => ar_ = #[(.ref a), (.double x), (.double y)] ∧ Z.Warmed39 U.vm ∧ U.heap = h0) (fun _ _ _ _ _ => True) (fun _ U o U' => ∃ v L, o = .returned v ∧ QO Z a x y h0 n0 v U'.heap L ∧ ReturnedEndW U o U' L ({ frames := 4, cells := 4, slots := 104, locals := 54 } : Room).cells ({ frames := 4, cells := 4, slots := 104, locals := 54 } : Room).slots) := by
  refine MetFree.of_bodySF (plainFor_of_name own_h138) hisR ?_
  intro p e s m args below meth c s₁ Bd hml0 hP hK
  obtain ⟨rfl, hZ, hh⟩ := hP
  have hx := Bd.exec
  have hby := Bd.bytes
  have hml : c.maxLocals = 5 := hml0
  have hown : s.vm.findClass "com/example/ample_gap/amplegap/simulation/OnRamp" = some m.cls := findClass_of_methodNamed Bd.named
  have hnm := (name_of_methodNamed Bd.named Bd.method).1
  have X0 : Stand p l e ({ frames := 4, cells := 4, slots := 104, locals := 54 } : Room) (s.setVm s.vm) m #[(.ref a), (.double x), (.double y)] below meth c s₁ [] 0 0 := Stand.of_body Bd
  have hS0 : s.Since s.vm 0 := (State.WarmedH.refl s).since 0
  have hk0 : 0 ≤ h0.size := Nat.zero_le _
  have hZ : Z.Warmed39 (s.setVm s.vm).vm := hZ
  have hown : (s.setVm s.vm).vm.findClass "com/example/ample_gap/amplegap/simulation/OnRamp" = some m.cls := hown
  have e0 : s₁.heap = h0 := by rw [← hh, Bd.state]; rfl
  have N0 := Fr.nil n0
  have k0 : own_K p e below (s₁.setTop (mkF m 0 #[.val (.ref a), .val (.double x), .second, .val (.double y), .second] [])) (s₁.setTop (entryFrame m #[(.ref a), (.double x), (.double y)] 5)) := fun t k => castTop (by clear k; first | (simp [entryFrame, mkF, argsToLocals, Value.category, maxLocals]; done) | rfl) k
  have K0 : Keep h0 h0 [a] := Keep.refl _ _
  have k1 : own_K p e below (s₁.setTop (mkF m 1 #[.val (.ref a), .val (.double x), .second, .val (.double y), .second] [(.ref a)])) (s₁.setTop (entryFrame m #[(.ref a), (.double x), (.double y)] 5)) := fun t hh => k0 t (by
    refine XS.aloadN X0.here hx rfl (hb hby own_h110) rfl rfl ?_
    show Steps p.tables e below (s₁.setTop (mkF m 1 #[.val (.ref a), .val (.double x), .second, .val (.double y), .second] [(.ref a)])) _
    exact hh)
  obtain ⟨T175, X176, e177, st178⟩ := initO X0 hx hZ hown (wT hw 51 rfl) (wT hw 11 rfl) (wT hw 12 rfl) e0 (g := (mkF m 1 #[.val (.ref a), .val (.double x), .second, .val (.double y), .second] [(.ref a)])) rfl (by rw [hml]; rfl) rfl (hb hby own_h111) (by decide) (W := 0) (by show 2 * 0 + _ ≤ _; exact Nat.le_of_eq rfl) (by decide)
  have k2 : own_K p e below (T175.setTop (mkF m 4 #[.val (.ref a), .val (.double x), .second, .val (.double y), .second] [])) (s₁.setTop (entryFrame m #[(.ref a), (.double x), (.double y)] 5)) := fun t hh => k1 t (st178 t hh)
  obtain ⟨a179, T180, h181, k_182, X183, e184, E185, hS186, hk187, hZ188, hown189, st190⟩ := ldcS X176 hx hZ hown (wT hw 52 rfl) (own_strAtoms hw) e177 hS0 hk0 (g := (mkF m 4 #[.val (.ref a), .val (.double x), .second, .val (.double y), .second] [])) rfl (hb hby own_h112) (n := 52) (by decide) (by decide) (by decide) (by decide)
  have F191 := Exa.ext (h' := h181) E185 E1
  have F192 := Fld.ext (h' := h181) E185 F1
  have F193 := Fld.ext (h' := h181) E185 F2
  have Z194 : n0 ≤ h181.size := Nat.le_trans Z0 E185.1
  have P195 : Keep h0 h181 [a] := K0.ext E185
  have k3 : own_K p e below (T180.setTop (mkF m 6 #[.val (.ref a), .val (.double x), .second, .val (.double y), .second] [(.ref a179)])) (s₁.setTop (entryFrame m #[(.ref a), (.double x), (.double y)] 5)) := fun t hh => k2 t (st190 t hh)
  have k4 : own_K p e below (T180.setTop (mkF m 7 #[.val (.ref a), .val (.double x), .second, .val (.double y), .second] [(.double x), (.ref a179)])) (s₁.setTop (entryFrame m #[(.ref a), (.double x), (.double y)] 5)) := fun t hh => k3 t (by
    refine XS.dloadN X183.here hx rfl (hb hby own_h113) rfl ?_
    show Steps p.tables e below (T180.setTop (mkF m 7 #[.val (.ref a), .val (.double x), .second, .val (.double y), .second] [(.double x), (.ref a179)])) _
    exact hh)
  obtain ⟨_, _, ⟨T196, L197, k_198, n_199⟩, -, X200, ⟨Lc201, hQ202, l_203, y_204, z_205⟩, st206⟩ := Jvm.LawKit.callS X183 hx (y := (⟨"com/example/ample_gap/amplegap/model/Ranges", "requireNonNegative", "(Ljava/lang/String;D)D"⟩ : MethodName)) hown189 (mvT hZ188 (wT hw 53 rfl)) (mvT hZ188 (wT hw 54 rfl)) (mvT hZ188 (wT hw 23 rfl)) (mvT hZ188 (wT hw 55 rfl)) (by decide) (backOf (W := 0) (rmRn l Z a0 hw [] a179 x h181 n0 Z194 n1 n2 n3) hZ188 (wT hw 55 rfl) (wT hw 23 rfl) (by decide) (by decide)) (g := (mkF m 7 #[.val (.ref a), .val (.double x), .second, .val (.double y), .second] [(.double x), (.ref a179)])) rfl (by rw [hml]; rfl) (argsL := [(.ref a179), (.double x)]) (rest := []) (lenOf own_h14 rfl) rfl (by show 2 * 0 + _ ≤ _; exact Nat.le_of_eq rfl) (hb hby own_h114) (fun _ _ => ⟨rfl, e184, (by decide : 2 + 0 ≤ _), (by decide : 56 + 0 ≤ _)⟩)
  dsimp only [Pt.U, Pt.locs, Pt.cells, Pt.slots] at X200 l_203 y_204 z_205 st206 hQ202
  subst l_203 y_204 z_205
  obtain ⟨rfl, N207, e208⟩ := hQ202
  have N209 := Fr.app N0 N207
  have k5 : own_K p e below (T196.setTop (mkF m 10 #[.val (.ref a), .val (.double x), .second, .val (.double y), .second] [(.double x)])) (s₁.setTop (entryFrame m #[(.ref a), (.double x), (.double y)] 5)) := fun t hh => k4 t (st206 t hh)
  have k6 : own_K p e below (T196.setTop (mkF m 11 #[.val (.ref a), .val (.double x), .second, .val (.double y), .second] [])) (s₁.setTop (entryFrame m #[(.ref a), (.double x), (.double y)] 5)) := fun t hh => k5 t (by
    refine own_pop2 X200.here hx rfl (hb hby own_h115) rfl ?_
    show Steps p.tables e below (T196.setTop (mkF m 11 #[.val (.ref a), .val (.double x), .second, .val (.double y), .second] [])) _
    exact hh)
  obtain ⟨a210, T211, h212, k_213, X214, e215, E216, hS217, hk218, hZ219, hown220, st221⟩ := ldcS X200 hx hZ188 hown189 (wT hw 56 rfl) (own_strAtoms hw) e208 hS186 hk187 (g := (mkF m 11 #[.val (.ref a), .val (.double x), .second, .val (.double y), .second] [])) rfl (hb hby own_h116) (n := 44) (by decide) (by decide) (by decide) (by decide)
  have F222 := Exa.ext (h' := h212) E216 F191
  have F223 := Fld.ext (h' := h212) E216 F192
  have F224 := Fld.ext (h' := h212) E216 F193
  have Z225 : n0 ≤ h212.size := Nat.le_trans Z194 E216.1
  have P226 : Keep h0 h212 [a] := P195.ext E216
  have k7 : own_K p e below (T211.setTop (mkF m 13 #[.val (.ref a), .val (.double x), .second, .val (.double y), .second] [(.ref a210)])) (s₁.setTop (entryFrame m #[(.ref a), (.double x), (.double y)] 5)) := fun t hh => k6 t (st221 t hh)
  have k8 : own_K p e below (T211.setTop (mkF m 14 #[.val (.ref a), .val (.double x), .second, .val (.double y), .second] [(.double y), (.ref a210)])) (s₁.setTop (entryFrame m #[(.ref a), (.double x), (.double y)] 5)) := fun t hh => k7 t (by
    refine XS.dloadN X214.here hx rfl (hb hby own_h117) rfl ?_
    show Steps p.tables e below (T211.setTop (mkF m 14 #[.val (.ref a), .val (.double x), .second, .val (.double y), .second] [(.double y), (.ref a210)])) _
    exact hh)
  obtain ⟨_, _, ⟨T227, L228, k_229, n_230⟩, -, X231, ⟨Lc232, hQ233, l_234, y_235, z_236⟩, st237⟩ := Jvm.LawKit.callS X214 hx (y := (⟨"com/example/ample_gap/amplegap/model/Ranges", "requireFinite", "(Ljava/lang/String;D)D"⟩ : MethodName)) hown220 (mvT hZ219 (wT hw 57 rfl)) (mvT hZ219 (wT hw 26 rfl)) (mvT hZ219 (wT hw 23 rfl)) (mvT hZ219 (wT hw 27 rfl)) (by decide) (backOf (W := 0) (rmRf l Z a0 hw [] a210 y h212 n0 Z225 n4 n5) hZ219 (wT hw 27 rfl) (wT hw 23 rfl) (by decide) (by decide)) (g := (mkF m 14 #[.val (.ref a), .val (.double x), .second, .val (.double y), .second] [(.double y), (.ref a210)])) rfl (by rw [hml]; rfl) (argsL := [(.ref a210), (.double y)]) (rest := []) (lenOf own_h14 rfl) rfl (by show 2 * 0 + _ ≤ _; exact Nat.le_of_eq rfl) (hb hby own_h118) (fun _ _ => ⟨rfl, e215, (by decide : 4 + 0 ≤ _), (by decide : 104 + 0 ≤ _)⟩)
  dsimp only [Pt.U, Pt.locs, Pt.cells, Pt.slots] at X231 l_234 y_235 z_236 st237 hQ233
  subst l_234 y_235 z_236
  obtain ⟨rfl, N238, e239⟩ := hQ233
  have N240 := Fr.app N209 N238
  have k9 : own_K p e below (T227.setTop (mkF m 17 #[.val (.ref a), .val (.double x), .second, .val (.double y), .second] [(.double y)])) (s₁.setTop (entryFrame m #[(.ref a), (.double x), (.double y)] 5)) := fun t hh => k8 t (st237 t hh)
  have k10 : own_K p e below (T227.setTop (mkF m 41 #[.val (.ref a), .val (.double x), .second, .val (.double y), .second] [(.double x), (.ref a)])) (s₁.setTop (entryFrame m #[(.ref a), (.double x), (.double y)] 5)) := fun t hh => k9 t (by
    refine own_pop2 X231.here hx rfl (hb hby own_h119) rfl ?_
    show Steps p.tables e below (T227.setTop (mkF m 18 #[.val (.ref a), .val (.double x), .second, .val (.double y), .second] [])) _
    refine XS.dloadN X231.here hx rfl (hb hby own_h120) rfl ?_
    show Steps p.tables e below (T227.setTop (mkF m 19 #[.val (.ref a), .val (.double x), .second, .val (.double y), .second] [(.double y)])) _
    refine XS.dloadN X231.here hx rfl (hb hby own_h121) rfl ?_
    show Steps p.tables e below (T227.setTop (mkF m 20 #[.val (.ref a), .val (.double x), .second, .val (.double y), .second] [(.double x), (.double y)])) _
    refine XS.dcmpS X231.here hx rfl (hb hby own_h122) rfl n6 ?_
    show Steps p.tables e below (T227.setTop (mkF m 21 #[.val (.ref a), .val (.double x), .second, .val (.double y), .second] [(.int (1 : Int32))])) _
    refine XS.ifYes X231.here hx rfl (pc0 := 21) (pc' := 39) rfl (hb hby own_h123) rfl (by decide) (by decide) (by decide) ?_
    show Steps p.tables e below (T227.setTop (mkF m 39 #[.val (.ref a), .val (.double x), .second, .val (.double y), .second] [])) _
    refine XS.aloadN X231.here hx rfl (hb hby own_h131) rfl rfl ?_
    show Steps p.tables e below (T227.setTop (mkF m 40 #[.val (.ref a), .val (.double x), .second, .val (.double y), .second] [(.ref a)])) _
    refine XS.dloadN X231.here hx rfl (hb hby own_h132) rfl ?_
    show Steps p.tables e below (T227.setTop (mkF m 41 #[.val (.ref a), .val (.double x), .second, .val (.double y), .second] [(.double x), (.ref a)])) _
    exact hh)
  obtain ⟨T241, h242, X243, e244, W245, st246⟩ := putF X231 hx hZ219 hown220 (host := "") (Or.inl (wT hw 58 rfl)) Via.refl e239 F223 F222 (Or.inr ⟨(wT hw 59 rfl), rfl, hnm⟩) (wT hw 46 rfl) (ty := .double) (by decide) rfl rfl (g := (mkF m 41 #[.val (.ref a), .val (.double x), .second, .val (.double y), .second] [(.double x), (.ref a)])) rfl rfl (hb hby own_h133)
  have N247 := Fr.snoc X243 N240 g1
  have hk248 := Nat.le_trans hk218 (show h212.size ≤ h242.size from Nat.le_of_eq W245.size.symm)
  have F249 := Exa.wr W245 F222
  have F250 : Fld Z h242 a "com/example/ample_gap/amplegap/simulation/OnRamp" "start" "D" (.double x) := Fld.same W245 F223
  have F251 := Fld.other W245 F224 (Or.inr (slot_ne (Or.inr (wT hw 61 rfl)) (Or.inr (wT hw 59 rfl)) (by decide) (t := .double) (t' := .double) (by decide) (by decide)))
  have Z252 : n0 ≤ h242.size := W245.size ▸ Z225
  have P253 : Keep h0 h242 [a] := P226.wr W245 (Or.inl (List.mem_of_getElem? (i := 0) rfl))
  have k11 : own_K p e below (T241.setTop (mkF m 44 #[.val (.ref a), .val (.double x), .second, .val (.double y), .second] [])) (s₁.setTop (entryFrame m #[(.ref a), (.double x), (.double y)] 5)) := fun t hh => k10 t (st246 t hh)
  have k12 : own_K p e below (T241.setTop (mkF m 46 #[.val (.ref a), .val (.double x), .second, .val (.double y), .second] [(.double y), (.ref a)])) (s₁.setTop (entryFrame m #[(.ref a), (.double x), (.double y)] 5)) := fun t hh => k11 t (by
    refine XS.aloadN X243.here hx rfl (hb hby own_h134) rfl rfl ?_
    show Steps p.tables e below (T241.setTop (mkF m 45 #[.val (.ref a), .val (.double x), .second, .val (.double y), .second] [(.ref a)])) _
    refine XS.dloadN X243.here hx rfl (hb hby own_h135) rfl ?_
    show Steps p.tables e below (T241.setTop (mkF m 46 #[.val (.ref a), .val (.double x), .second, .val (.double y), .second] [(.double y), (.ref a)])) _
    exact hh)
  obtain ⟨T254, h255, X256, e257, W258, st259⟩ := putF X243 hx hZ219 hown220 (host := "") (Or.inl (wT hw 60 rfl)) Via.refl e244 F251 F249 (Or.inr ⟨(wT hw 61 rfl), rfl, hnm⟩) (wT hw 46 rfl) (ty := .double) (by decide) rfl rfl (g := (mkF m 46 #[.val (.ref a), .val (.double x), .second, .val (.double y), .second] [(.double y), (.ref a)])) rfl rfl (hb hby own_h136)
  have N260 := Fr.snoc X256 N247 g1
  have hk261 := Nat.le_trans hk248 (show h242.size ≤ h255.size from Nat.le_of_eq W258.size.symm)
  have F262 := Exa.wr W258 F249
  have F263 := Fld.other W258 F250 (Or.inr (slot_ne (Or.inr (wT hw 59 rfl)) (Or.inr (wT hw 61 rfl)) (by decide) (t := .double) (t' := .double) (by decide) (by decide)))
  have F264 : Fld Z h255 a "com/example/ample_gap/amplegap/simulation/OnRamp" "end" "D" (.double y) := Fld.same W258 F251
  have Z265 : n0 ≤ h255.size := W258.size ▸ Z252
  have P266 : Keep h0 h255 [a] := P253.wr W258 (Or.inl (List.mem_of_getElem? (i := 0) rfl))
  have k13 : own_K p e below (T254.setTop (mkF m 49 #[.val (.ref a), .val (.double x), .second, .val (.double y), .second] [])) (s₁.setTop (entryFrame m #[(.ref a), (.double x), (.double y)] 5)) := fun t hh => k12 t (st259 t hh)
  obtain ⟨fs, hr, hrun, hended, hEnd⟩ := X256.leaveW hS217 (by rw [e257]; exact hk261) (v := none) (fun _ => rfl)
  refine ⟨_, _, k13 _ (X256.returnOut hx Bd.returns (hb hby own_h137) hr), hrun, hended, _, _, rfl, ?_, hEnd.1, hEnd.2.1, hEnd.2.2.1, hEnd.2.2.2.mono (by decide) (by decide)⟩
  show QO Z a x y h0 n0 _ T254.heap _
  rw [e257]
  exact ⟨rfl, N260, P266, F262, F264⟩
theorem own_h139 : decode jdk_31_method_11_code 0 = .ok (.aload_n 0, 1) := by decide +kernel
theorem own_h140 : decode jdk_31_method_11_code 1 = .ok (.ifnonnull 12, 3) := by decide +kernel
theorem own_h141 : decode jdk_31_method_11_code 4 = .ok (.new 84, 3) := by decide +kernel
theorem own_h142 : decode jdk_31_method_11_code 7 = .ok (.dup, 1) := by decide +kernel
theorem own_h143 : decode jdk_31_method_11_code 8 = .ok (.aload_n 1, 1) := by decide +kernel
theorem own_h144 : decode jdk_31_method_11_code 9 = .ok (.invokespecial 87, 3) := by decide +kernel
theorem own_h145 : decode jdk_31_method_11_code 12 = .ok (.athrow, 1) := by decide +kernel
theorem own_h146 : decode jdk_31_method_11_code 13 = .ok (.aload_n 0, 1) := by decide +kernel
theorem own_h147 : decode jdk_31_method_11_code 14 = .ok (.areturn, 1) := by decide +kernel
theorem own_h148 : plainName "java/util/Objects" = true := by first | (simp [plainName, overriddenIn]; done) | decide +kernel
set_option maxRecDepth 65536 in
set_option maxHeartbeats 40000000 in
theorem rmNn (l : Launch) (Z : State) (a0 : Array Value) (hw : ∀ d ∈ tables_1, d.before a0 Z = true) (ws : List Jvm.Cond) (ra sa : Addr) (h0 : Heap) (n0 : Nat) (Z0 : n0 ≤ h0.size) :
    MetFree l (⟨"java/util/Objects", "requireNonNull", "(Ljava/lang/Object;Ljava/lang/String;)Ljava/lang/Object;"⟩ : MethodName) (head1 (Jvm.Cond.code (⟨"java/util/Objects", "requireNonNull", "(Ljava/lang/Object;Ljava/lang/String;)Ljava/lang/Object;"⟩ : MethodName) jdk_31_method_11_code 2 (some (.object "java/lang/Object")) :: ws) ({ frames := 0, cells := 0, slots := 0, locals := 0 } : Room)) (fun ar_ U => ar_ = #[(.ref ra), (.ref sa)] ∧ Z.Warmed39 U.vm ∧ U.heap = h0) (fun _ _ _ _ _ => True) (fun _ U o U' => ∃ v L, o = .returned v ∧ QR ra h0 n0 v U'.heap L ∧ FrameEnd U o U' L ({ frames := 0, cells := 0, slots := 0, locals := 0 } : Room).cells ({ frames := 0, cells := 0, slots := 0, locals := 0 } : Room).slots) := by
  refine MetFree.of_bodySF (plainFor_of_name own_h148) hisR ?_
  intro p e s m args below meth c s₁ Bd hml0 hP hK
  obtain ⟨rfl, hZ, hh⟩ := hP
  have hx := Bd.exec
  have hby := Bd.bytes
  have hml : c.maxLocals = 2 := hml0
  have hown : s.vm.findClass "java/util/Objects" = some m.cls := findClass_of_methodNamed Bd.named
  have hnm := (name_of_methodNamed Bd.named Bd.method).1
  have X0 : Stand p l e ({ frames := 0, cells := 0, slots := 0, locals := 0 } : Room) s m #[(.ref ra), (.ref sa)] below meth c s₁ [] 0 0 := Stand.of_body Bd
  have e0 : s₁.heap = h0 := by rw [← hh, Bd.state]; rfl
  have N0 := Fr.nil n0
  have k0 : own_K p e below (s₁.setTop (mkF m 0 #[.val (.ref ra), .val (.ref sa)] [])) (s₁.setTop (entryFrame m #[(.ref ra), (.ref sa)] 2)) := fun t k => castTop (by clear k; first | (simp [entryFrame, mkF, argsToLocals, Value.category, maxLocals]; done) | rfl) k
  have k1 : own_K p e below (s₁.setTop (mkF m 14 #[.val (.ref ra), .val (.ref sa)] [(.ref ra)])) (s₁.setTop (entryFrame m #[(.ref ra), (.ref sa)] 2)) := fun t hh => k0 t (by
    refine XS.aloadN X0.here hx rfl (hb hby own_h139) rfl rfl ?_
    show Steps p.tables e below (s₁.setTop (mkF m 1 #[.val (.ref ra), .val (.ref sa)] [(.ref ra)])) _
    refine XS.ifnonnullYes X0.here hx rfl (pc0 := 1) (pc' := 13) rfl (hb hby own_h140) rfl (by decide) (by decide) ?_
    show Steps p.tables e below (s₁.setTop (mkF m 13 #[.val (.ref ra), .val (.ref sa)] [])) _
    refine XS.aloadN X0.here hx rfl (hb hby own_h146) rfl rfl ?_
    show Steps p.tables e below (s₁.setTop (mkF m 14 #[.val (.ref ra), .val (.ref sa)] [(.ref ra)])) _
    exact hh)
  obtain ⟨fs, hr, hrun, hended, hW, hsame⟩ := X0.leave (v := some (.ref ra)) (fun h => by rw [Bd.returns] at h; cases h)
  refine ⟨_, _, k1 _ (retOut X0 hx (t := .object "java/lang/Object") Bd.returns rfl (Or.inr (Or.inr (Or.inr (Or.inr ⟨rfl, rfl, rfl⟩)))) (hb hby own_h147) hr), hrun, hended, _, _, rfl, ?_, ⟨_, rfl⟩, hW, hsame.mono (by decide) (by decide)⟩
  show QR ra h0 n0 _ s₁.heap _
  rw [e0]
  exact ⟨rfl, N0, rfl⟩
theorem own_h149 : decode prog_45_method_3_code 0 = .ok (.aload_n 0, 1) := by decide +kernel
theorem own_h150 : decode prog_45_method_3_code 1 = .ok (.getfield 35, 3) := by decide +kernel
theorem own_h151 : decode prog_45_method_3_code 4 = .ok (.dreturn, 1) := by decide +kernel
set_option maxRecDepth 65536 in
set_option maxHeartbeats 40000000 in
theorem rmEn (l : Launch) (Z : State) (a0 : Array Value) (hw : ∀ d ∈ tables_1, d.before a0 Z = true) (ws : List Jvm.Cond) (a : Addr) (y : UInt64) (h0 : Heap) (n0 : Nat) (Z0 : n0 ≤ h0.size) (F1 : Fld Z h0 a "com/example/ample_gap/amplegap/simulation/OnRamp" "end" "D" (.double y)) :
    MetFree l (⟨"com/example/ample_gap/amplegap/simulation/OnRamp", "end", "()D"⟩ : MethodName) (head1 (Jvm.Cond.code (⟨"com/example/ample_gap/amplegap/simulation/OnRamp", "end", "()D"⟩ : MethodName) prog_45_method_3_code 1 (some .double) :: ws) ({ frames := 0, cells := 0, slots := 0, locals := 0 } : Room)) (fun ar_ U => ar_ = #[(.ref a)] ∧ Z.Warmed39 U.vm ∧ U.heap = h0) (fun _ _ _ _ _ => True) (fun _ U o U' => ∃ v L, o = .returned v ∧ QD y h0 n0 v U'.heap L ∧ FrameEnd U o U' L ({ frames := 0, cells := 0, slots := 0, locals := 0 } : Room).cells ({ frames := 0, cells := 0, slots := 0, locals := 0 } : Room).slots) := by
  refine MetFree.of_bodySF (plainFor_of_name own_h138) hisR ?_
  intro p e s m args below meth c s₁ Bd hml0 hP hK
  obtain ⟨rfl, hZ, hh⟩ := hP
  have hx := Bd.exec
  have hby := Bd.bytes
  have hml : c.maxLocals = 1 := hml0
  have hown : s.vm.findClass "com/example/ample_gap/amplegap/simulation/OnRamp" = some m.cls := findClass_of_methodNamed Bd.named
  have hnm := (name_of_methodNamed Bd.named Bd.method).1
  have X0 : Stand p l e ({ frames := 0, cells := 0, slots := 0, locals := 0 } : Room) s m #[(.ref a)] below meth c s₁ [] 0 0 := Stand.of_body Bd
  have e0 : s₁.heap = h0 := by rw [← hh, Bd.state]; rfl
  have N0 := Fr.nil n0
  have k0 : own_K p e below (s₁.setTop (mkF m 0 #[.val (.ref a)] [])) (s₁.setTop (entryFrame m #[(.ref a)] 1)) := fun t k => castTop (by clear k; first | (simp [entryFrame, mkF, argsToLocals, Value.category, maxLocals]; done) | rfl) k
  have k1 : own_K p e below (s₁.setTop (mkF m 1 #[.val (.ref a)] [(.ref a)])) (s₁.setTop (entryFrame m #[(.ref a)] 1)) := fun t hh => k0 t (by
    refine XS.aloadN X0.here hx rfl (hb hby own_h149) rfl rfl ?_
    show Steps p.tables e below (s₁.setTop (mkF m 1 #[.val (.ref a)] [(.ref a)])) _
    exact hh)
  obtain ⟨T267, X268, e269, st270⟩ := getF X0 hx hZ hown (host := "") (Or.inl (wT hw 60 rfl)) Via.refl e0 F1 (g := (mkF m 1 #[.val (.ref a)] [(.ref a)])) rfl rfl (hb hby own_h150)
  have k2 : own_K p e below (T267.setTop (mkF m 4 #[.val (.ref a)] [(.double y)])) (s₁.setTop (entryFrame m #[(.ref a)] 1)) := fun t hh => k1 t (st270 t hh)
  obtain ⟨fs, hr, hrun, hended, hW, hsame⟩ := X268.leave (v := some (.double y)) (fun h => by rw [Bd.returns] at h; cases h)
  refine ⟨_, _, k2 _ (retOut X268 hx (t := .double) Bd.returns rfl (Or.inr (Or.inr (Or.inl ⟨rfl, rfl, _, rfl⟩))) (hb hby own_h151) hr), hrun, hended, _, _, rfl, ?_, ⟨_, rfl⟩, hW, hsame.mono (by decide) (by decide)⟩
  show QD y h0 n0 _ T267.heap _
  rw [e269]
  exact ⟨rfl, N0, rfl⟩
def QB (Z : State) (a r : Addr) (n : Int32) (h0 : Heap) (n0 : Nat) (v : Option Value) (h : Heap) (L : List Loc) : Prop := v = none ∧ Fr n0 L ∧ Keep h0 h [a] ∧ Exa Z h a "com/example/ample_gap/amplegap/simulation/Road" ∧ Fld Z h a "com/example/ample_gap/amplegap/simulation/Road" "lanes" "I" (.int n) ∧ Fld Z h a "com/example/ample_gap/amplegap/simulation/Road" "onRamp" "Lcom/example/ample_gap/amplegap/simulation/OnRamp;" (.ref r)
theorem own_h152 : decode prog_49_method_4_code 0 = .ok (.aload_n 0, 1) := by decide +kernel
theorem own_h153 : decode prog_49_method_4_code 1 = .ok (.invokespecial 7, 3) := by decide +kernel
theorem own_h154 : decode prog_49_method_4_code 4 = .ok (.aload_n 0, 1) := by decide +kernel
theorem own_h155 : decode prog_49_method_4_code 5 = .ok (.aload_n 1, 1) := by decide +kernel
theorem own_h156 : decode prog_49_method_4_code 6 = .ok (.getfield 31, 3) := by decide +kernel
theorem own_h157 : decode prog_49_method_4_code 9 = .ok (.putfield 31, 3) := by decide +kernel
theorem own_h158 : decode prog_49_method_4_code 12 = .ok (.aload_n 0, 1) := by decide +kernel
theorem own_h159 : decode prog_49_method_4_code 13 = .ok (.aload_n 1, 1) := by decide +kernel
theorem own_h160 : decode prog_49_method_4_code 14 = .ok (.getfield 35, 3) := by decide +kernel
theorem own_h161 : decode prog_49_method_4_code 17 = .ok (.putfield 35, 3) := by decide +kernel
theorem own_h162 : decode prog_49_method_4_code 20 = .ok (.aload_n 0, 1) := by decide +kernel
theorem own_h163 : decode prog_49_method_4_code 21 = .ok (.aload_n 1, 1) := by decide +kernel
theorem own_h164 : decode prog_49_method_4_code 22 = .ok (.getfield 39, 3) := by decide +kernel
theorem own_h165 : decode prog_49_method_4_code 25 = .ok (.putfield 39, 3) := by decide +kernel
theorem own_h166 : decode prog_49_method_4_code 28 = .ok (.aload_n 0, 1) := by decide +kernel
theorem own_h167 : decode prog_49_method_4_code 29 = .ok (.aload_n 2, 1) := by decide +kernel
theorem own_h168 : decode prog_49_method_4_code 30 = .ok (.putfield 43, 3) := by decide +kernel
theorem own_h169 : decode prog_49_method_4_code 33 = .ok (.return_, 1) := by decide +kernel
set_option maxRecDepth 65536 in
set_option maxHeartbeats 40000000 in
theorem rmB (l : Launch) (Z : State) (a0 : Array Value) (hw : ∀ d ∈ tables_1, d.before a0 Z = true) (ws : List Jvm.Cond) (a b r : Addr) (d : UInt64) (n z : Int32) (h0 : Heap) (n0 : Nat) (Z0 : n0 ≤ h0.size) (E1 : Exa Z h0 a "com/example/ample_gap/amplegap/simulation/Road") (g1 : n0 ≤ a) (F1 : Fld Z h0 a "com/example/ample_gap/amplegap/simulation/Road" "length" "D" (.double (0 : UInt64))) (F2 : Fld Z h0 a "com/example/ample_gap/amplegap/simulation/Road" "lanes" "I" (.int (0 : Int32))) (F3 : Fld Z h0 a "com/example/ample_gap/amplegap/simulation/Road" "ring" "Z" (.int (0 : Int32))) (F4 : Fld Z h0 a "com/example/ample_gap/amplegap/simulation/Road" "onRamp" "Lcom/example/ample_gap/amplegap/simulation/OnRamp;" .null) (nba : b ≠ a) (B1 : Fld Z h0 b "com/example/ample_gap/amplegap/simulation/Road" "length" "D" (.double d)) (B2 : Fld Z h0 b "com/example/ample_gap/amplegap/simulation/Road" "lanes" "I" (.int n)) (B3 : Fld Z h0 b "com/example/ample_gap/amplegap/simulation/Road" "ring" "Z" (.int z)) (hz1 : narrow .boolean (.int z) = .int z) (hz2 : fits .boolean (.int z) = true) :
    MetFree l (⟨"com/example/ample_gap/amplegap/simulation/Road", "<init>", "(Lcom/example/ample_gap/amplegap/simulation/Road;Lcom/example/ample_gap/amplegap/simulation/OnRamp;)V"⟩ : MethodName) (head1 (Jvm.Cond.code (⟨"com/example/ample_gap/amplegap/simulation/Road", "<init>", "(Lcom/example/ample_gap/amplegap/simulation/Road;Lcom/example/ample_gap/amplegap/simulation/OnRamp;)V"⟩ : MethodName) prog_49_method_4_code 3 none :: ws) ({ frames := 1, cells := 0, slots := 0, locals := 12 } : Room)) (fun ar_ U => ar_ = #[(.ref a), (.ref b), (.ref r)] ∧ Z.Warmed39 U.vm ∧ U.heap = h0) (fun _ _ _ _ _ => True) (fun _ U o U' => ∃ v L, o = .returned v ∧ QB Z a r n h0 n0 v U'.heap L ∧ FrameEnd U o U' L ({ frames := 1, cells := 0, slots := 0, locals := 12 } : Room).cells ({ frames := 1, cells := 0, slots := 0, locals := 12 } : Room).slots) := by
  refine MetFree.of_bodySF (plainFor_of_name own_h103) hisR ?_
  intro p e s m args below meth c s₁ Bd hml0 hP hK
  obtain ⟨rfl, hZ, hh⟩ := hP
  have hx := Bd.exec
  have hby := Bd.bytes
  have hml : c.maxLocals = 3 := hml0
  have hown : s.vm.findClass "com/example/ample_gap/amplegap/simulation/Road" = some m.cls := findClass_of_methodNamed Bd.named
  have hnm := (name_of_methodNamed Bd.named Bd.method).1
  have X0 : Stand p l e ({ frames := 1, cells := 0, slots := 0, locals := 12 } : Room) s m #[(.ref a), (.ref b), (.ref r)] below meth c s₁ [] 0 0 := Stand.of_body Bd
  have e0 : s₁.heap = h0 := by rw [← hh, Bd.state]; rfl
  have N0 := Fr.nil n0
  have k0 : own_K p e below (s₁.setTop (mkF m 0 #[.val (.ref a), .val (.ref b), .val (.ref r)] [])) (s₁.setTop (entryFrame m #[(.ref a), (.ref b), (.ref r)] 3)) := fun t k => castTop (by clear k; first | (simp [entryFrame, mkF, argsToLocals, Value.category, maxLocals]; done) | rfl) k
  have K0 : Keep h0 h0 [a] := Keep.refl _ _
  have k1 : own_K p e below (s₁.setTop (mkF m 1 #[.val (.ref a), .val (.ref b), .val (.ref r)] [(.ref a)])) (s₁.setTop (entryFrame m #[(.ref a), (.ref b), (.ref r)] 3)) := fun t hh => k0 t (by
    refine XS.aloadN X0.here hx rfl (hb hby own_h152) rfl rfl ?_
    show Steps p.tables e below (s₁.setTop (mkF m 1 #[.val (.ref a), .val (.ref b), .val (.ref r)] [(.ref a)])) _
    exact hh)
  obtain ⟨T271, X272, e273, st274⟩ := initO X0 hx hZ hown (wT hw 10 rfl) (wT hw 11 rfl) (wT hw 12 rfl) e0 (g := (mkF m 1 #[.val (.ref a), .val (.ref b), .val (.ref r)] [(.ref a)])) rfl (by rw [hml]; rfl) rfl (hb hby own_h153) (by decide) (W := 0) (by show 2 * 0 + _ ≤ _; exact Nat.le_of_eq rfl) (by decide)
  have k2 : own_K p e below (T271.setTop (mkF m 4 #[.val (.ref a), .val (.ref b), .val (.ref r)] [])) (s₁.setTop (entryFrame m #[(.ref a), (.ref b), (.ref r)] 3)) := fun t hh => k1 t (st274 t hh)
  have k3 : own_K p e below (T271.setTop (mkF m 6 #[.val (.ref a), .val (.ref b), .val (.ref r)] [(.ref b), (.ref a)])) (s₁.setTop (entryFrame m #[(.ref a), (.ref b), (.ref r)] 3)) := fun t hh => k2 t (by
    refine XS.aloadN X272.here hx rfl (hb hby own_h154) rfl rfl ?_
    show Steps p.tables e below (T271.setTop (mkF m 5 #[.val (.ref a), .val (.ref b), .val (.ref r)] [(.ref a)])) _
    refine XS.aloadN X272.here hx rfl (hb hby own_h155) rfl rfl ?_
    show Steps p.tables e below (T271.setTop (mkF m 6 #[.val (.ref a), .val (.ref b), .val (.ref r)] [(.ref b), (.ref a)])) _
    exact hh)
  obtain ⟨T275, X276, e277, st278⟩ := getF X272 hx hZ hown (host := "") (Or.inl (wT hw 37 rfl)) Via.refl e273 B1 (g := (mkF m 6 #[.val (.ref a), .val (.ref b), .val (.ref r)] [(.ref b), (.ref a)])) rfl rfl (hb hby own_h156)
  have k4 : own_K p e below (T275.setTop (mkF m 9 #[.val (.ref a), .val (.ref b), .val (.ref r)] [(.double d), (.ref a)])) (s₁.setTop (entryFrame m #[(.ref a), (.ref b), (.ref r)] 3)) := fun t hh => k3 t (st278 t hh)
  obtain ⟨T279, h280, X281, e282, W283, st284⟩ := putF X276 hx hZ hown (host := "") (Or.inl (wT hw 37 rfl)) Via.refl e277 F1 E1 (Or.inr ⟨(wT hw 38 rfl), rfl, hnm⟩) (wT hw 2 rfl) (ty := .double) (by decide) rfl rfl (g := (mkF m 9 #[.val (.ref a), .val (.ref b), .val (.ref r)] [(.double d), (.ref a)])) rfl rfl (hb hby own_h157)
  have N285 := Fr.snoc X281 N0 g1
  have F286 := Exa.wr W283 E1
  have F287 : Fld Z h280 a "com/example/ample_gap/amplegap/simulation/Road" "length" "D" (.double d) := Fld.same W283 F1
  have F288 := Fld.other W283 F2 (Or.inr (slot_ne (Or.inr (wT hw 40 rfl)) (Or.inr (wT hw 38 rfl)) (by decide) (t := .int) (t' := .double) (by decide) (by decide)))
  have F289 := Fld.other W283 F3 (Or.inr (slot_ne (Or.inr (wT hw 42 rfl)) (Or.inr (wT hw 38 rfl)) (by decide) (t := .boolean) (t' := .double) (by decide) (by decide)))
  have F290 := Fld.other W283 F4 (Or.inr (slot_ne (Or.inr (wT hw 44 rfl)) (Or.inr (wT hw 38 rfl)) (by decide) (t := (.object "com/example/ample_gap/amplegap/simulation/OnRamp")) (t' := .double) (by decide) (by decide)))
  have F291 := Fld.other W283 B1 (Or.inl nba)
  have F292 := Fld.other W283 B2 (Or.inl nba)
  have F293 := Fld.other W283 B3 (Or.inl nba)
  have Z294 : n0 ≤ h280.size := W283.size ▸ Z0
  have P295 : Keep h0 h280 [a] := K0.wr W283 (Or.inl (List.mem_of_getElem? (i := 0) rfl))
  have k5 : own_K p e below (T279.setTop (mkF m 12 #[.val (.ref a), .val (.ref b), .val (.ref r)] [])) (s₁.setTop (entryFrame m #[(.ref a), (.ref b), (.ref r)] 3)) := fun t hh => k4 t (st284 t hh)
  have k6 : own_K p e below (T279.setTop (mkF m 14 #[.val (.ref a), .val (.ref b), .val (.ref r)] [(.ref b), (.ref a)])) (s₁.setTop (entryFrame m #[(.ref a), (.ref b), (.ref r)] 3)) := fun t hh => k5 t (by
    refine XS.aloadN X281.here hx rfl (hb hby own_h158) rfl rfl ?_
    show Steps p.tables e below (T279.setTop (mkF m 13 #[.val (.ref a), .val (.ref b), .val (.ref r)] [(.ref a)])) _
    refine XS.aloadN X281.here hx rfl (hb hby own_h159) rfl rfl ?_
    show Steps p.tables e below (T279.setTop (mkF m 14 #[.val (.ref a), .val (.ref b), .val (.ref r)] [(.ref b), (.ref a)])) _
    exact hh)
  obtain ⟨T296, X297, e298, st299⟩ := getF X281 hx hZ hown (host := "") (Or.inl (wT hw 39 rfl)) Via.refl e282 F292 (g := (mkF m 14 #[.val (.ref a), .val (.ref b), .val (.ref r)] [(.ref b), (.ref a)])) rfl rfl (hb hby own_h160)
  have k7 : own_K p e below (T296.setTop (mkF m 17 #[.val (.ref a), .val (.ref b), .val (.ref r)] [(.int n), (.ref a)])) (s₁.setTop (entryFrame m #[(.ref a), (.ref b), (.ref r)] 3)) := fun t hh => k6 t (st299 t hh)
  obtain ⟨T300, h301, X302, e303, W304, st305⟩ := putF X297 hx hZ hown (host := "") (Or.inl (wT hw 39 rfl)) Via.refl e298 F288 F286 (Or.inr ⟨(wT hw 40 rfl), rfl, hnm⟩) (wT hw 2 rfl) (ty := .int) (by decide) rfl rfl (g := (mkF m 17 #[.val (.ref a), .val (.ref b), .val (.ref r)] [(.int n), (.ref a)])) rfl rfl (hb hby own_h161)
  have N306 := Fr.snoc X302 N285 g1
  have F307 := Exa.wr W304 F286
  have F308 := Fld.other W304 F287 (Or.inr (slot_ne (Or.inr (wT hw 38 rfl)) (Or.inr (wT hw 40 rfl)) (by decide) (t := .double) (t' := .int) (by decide) (by decide)))
  have F309 : Fld Z h301 a "com/example/ample_gap/amplegap/simulation/Road" "lanes" "I" (.int n) := Fld.same W304 F288
  have F310 := Fld.other W304 F289 (Or.inr (slot_ne (Or.inr (wT hw 42 rfl)) (Or.inr (wT hw 40 rfl)) (by decide) (t := .boolean) (t' := .int) (by decide) (by decide)))
  have F311 := Fld.other W304 F290 (Or.inr (slot_ne (Or.inr (wT hw 44 rfl)) (Or.inr (wT hw 40 rfl)) (by decide) (t := (.object "com/example/ample_gap/amplegap/simulation/OnRamp")) (t' := .int) (by decide) (by decide)))
  have F312 := Fld.other W304 F291 (Or.inl nba)
  have F313 := Fld.other W304 F292 (Or.inl nba)
  have F314 := Fld.other W304 F293 (Or.inl nba)
  have Z315 : n0 ≤ h301.size := W304.size ▸ Z294
  have P316 : Keep h0 h301 [a] := P295.wr W304 (Or.inl (List.mem_of_getElem? (i := 0) rfl))
  have k8 : own_K p e below (T300.setTop (mkF m 20 #[.val (.ref a), .val (.ref b), .val (.ref r)] [])) (s₁.setTop (entryFrame m #[(.ref a), (.ref b), (.ref r)] 3)) := fun t hh => k7 t (st305 t hh)
  have k9 : own_K p e below (T300.setTop (mkF m 22 #[.val (.ref a), .val (.ref b), .val (.ref r)] [(.ref b), (.ref a)])) (s₁.setTop (entryFrame m #[(.ref a), (.ref b), (.ref r)] 3)) := fun t hh => k8 t (by
    refine XS.aloadN X302.here hx rfl (hb hby own_h162) rfl rfl ?_
    show Steps p.tables e below (T300.setTop (mkF m 21 #[.val (.ref a), .val (.ref b), .val (.ref r)] [(.ref a)])) _
    refine XS.aloadN X302.here hx rfl (hb hby own_h163) rfl rfl ?_
    show Steps p.tables e below (T300.setTop (mkF m 22 #[.val (.ref a), .val (.ref b), .val (.ref r)] [(.ref b), (.ref a)])) _
    exact hh)
  obtain ⟨T317, X318, e319, st320⟩ := getF X302 hx hZ hown (host := "") (Or.inl (wT hw 41 rfl)) Via.refl e303 F314 (g := (mkF m 22 #[.val (.ref a), .val (.ref b), .val (.ref r)] [(.ref b), (.ref a)])) rfl rfl (hb hby own_h164)
  have k10 : own_K p e below (T317.setTop (mkF m 25 #[.val (.ref a), .val (.ref b), .val (.ref r)] [(.int z), (.ref a)])) (s₁.setTop (entryFrame m #[(.ref a), (.ref b), (.ref r)] 3)) := fun t hh => k9 t (st320 t hh)
  obtain ⟨T321, h322, X323, e324, W325, st326⟩ := putF X318 hx hZ hown (host := "") (Or.inl (wT hw 41 rfl)) Via.refl e319 F310 F307 (Or.inr ⟨(wT hw 42 rfl), rfl, hnm⟩) (wT hw 2 rfl) (ty := .boolean) (by decide) hz1 hz2 (g := (mkF m 25 #[.val (.ref a), .val (.ref b), .val (.ref r)] [(.int z), (.ref a)])) rfl rfl (hb hby own_h165)
  have N327 := Fr.snoc X323 N306 g1
  have F328 := Exa.wr W325 F307
  have F329 := Fld.other W325 F308 (Or.inr (slot_ne (Or.inr (wT hw 38 rfl)) (Or.inr (wT hw 42 rfl)) (by decide) (t := .double) (t' := .boolean) (by decide) (by decide)))
  have F330 := Fld.other W325 F309 (Or.inr (slot_ne (Or.inr (wT hw 40 rfl)) (Or.inr (wT hw 42 rfl)) (by decide) (t := .int) (t' := .boolean) (by decide) (by decide)))
  have F331 : Fld Z h322 a "com/example/ample_gap/amplegap/simulation/Road" "ring" "Z" (.int z) := Fld.same W325 F310
  have F332 := Fld.other W325 F311 (Or.inr (slot_ne (Or.inr (wT hw 44 rfl)) (Or.inr (wT hw 42 rfl)) (by decide) (t := (.object "com/example/ample_gap/amplegap/simulation/OnRamp")) (t' := .boolean) (by decide) (by decide)))
  have F333 := Fld.other W325 F312 (Or.inl nba)
  have F334 := Fld.other W325 F313 (Or.inl nba)
  have F335 := Fld.other W325 F314 (Or.inl nba)
  have Z336 : n0 ≤ h322.size := W325.size ▸ Z315
  have P337 : Keep h0 h322 [a] := P316.wr W325 (Or.inl (List.mem_of_getElem? (i := 0) rfl))
  have k11 : own_K p e below (T321.setTop (mkF m 28 #[.val (.ref a), .val (.ref b), .val (.ref r)] [])) (s₁.setTop (entryFrame m #[(.ref a), (.ref b), (.ref r)] 3)) := fun t hh => k10 t (st326 t hh)
  have k12 : own_K p e below (T321.setTop (mkF m 30 #[.val (.ref a), .val (.ref b), .val (.ref r)] [(.ref r), (.ref a)])) (s₁.setTop (entryFrame m #[(.ref a), (.ref b), (.ref r)] 3)) := fun t hh => k11 t (by
    refine XS.aloadN X323.here hx rfl (hb hby own_h166) rfl rfl ?_
    show Steps p.tables e below (T321.setTop (mkF m 29 #[.val (.ref a), .val (.ref b), .val (.ref r)] [(.ref a)])) _
    refine XS.aloadN X323.here hx rfl (hb hby own_h167) rfl rfl ?_
    show Steps p.tables e below (T321.setTop (mkF m 30 #[.val (.ref a), .val (.ref b), .val (.ref r)] [(.ref r), (.ref a)])) _
    exact hh)
  obtain ⟨T338, h339, X340, e341, W342, st343⟩ := putF X323 hx hZ hown (host := "") (Or.inl (wT hw 43 rfl)) Via.refl e324 F332 F328 (Or.inr ⟨(wT hw 44 rfl), rfl, hnm⟩) (wT hw 2 rfl) (ty := .object "com/example/ample_gap/amplegap/simulation/OnRamp") (by decide) rfl rfl (g := (mkF m 30 #[.val (.ref a), .val (.ref b), .val (.ref r)] [(.ref r), (.ref a)])) rfl rfl (hb hby own_h168)
  have N344 := Fr.snoc X340 N327 g1
  have F345 := Exa.wr W342 F328
  have F346 := Fld.other W342 F329 (Or.inr (slot_ne (Or.inr (wT hw 38 rfl)) (Or.inr (wT hw 44 rfl)) (by decide) (t := .double) (t' := (.object "com/example/ample_gap/amplegap/simulation/OnRamp")) (by decide) (by decide)))
  have F347 := Fld.other W342 F330 (Or.inr (slot_ne (Or.inr (wT hw 40 rfl)) (Or.inr (wT hw 44 rfl)) (by decide) (t := .int) (t' := (.object "com/example/ample_gap/amplegap/simulation/OnRamp")) (by decide) (by decide)))
  have F348 := Fld.other W342 F331 (Or.inr (slot_ne (Or.inr (wT hw 42 rfl)) (Or.inr (wT hw 44 rfl)) (by decide) (t := .boolean) (t' := (.object "com/example/ample_gap/amplegap/simulation/OnRamp")) (by decide) (by decide)))
  have F349 : Fld Z h339 a "com/example/ample_gap/amplegap/simulation/Road" "onRamp" "Lcom/example/ample_gap/amplegap/simulation/OnRamp;" (.ref r) := Fld.same W342 F332
  have F350 := Fld.other W342 F333 (Or.inl nba)
  have F351 := Fld.other W342 F334 (Or.inl nba)
  have F352 := Fld.other W342 F335 (Or.inl nba)
  have Z353 : n0 ≤ h339.size := W342.size ▸ Z336
  have P354 : Keep h0 h339 [a] := P337.wr W342 (Or.inl (List.mem_of_getElem? (i := 0) rfl))
  have k13 : own_K p e below (T338.setTop (mkF m 33 #[.val (.ref a), .val (.ref b), .val (.ref r)] [])) (s₁.setTop (entryFrame m #[(.ref a), (.ref b), (.ref r)] 3)) := fun t hh => k12 t (st343 t hh)
  obtain ⟨fs, hr, hrun, hended, hW, hsame⟩ := X340.leave (v := none) (fun _ => rfl)
  refine ⟨_, _, k13 _ (X340.returnOut hx Bd.returns (hb hby own_h169) hr), hrun, hended, _, _, rfl, ?_, ⟨_, rfl⟩, hW, hsame.mono (by decide) (by decide)⟩
  show QB Z a r n h0 n0 _ T338.heap _
  rw [e341]
  exact ⟨rfl, N344, P354, F345, F347, F349⟩
def QW (Z : State) (r : Addr) (n : Int32) (h0 : Heap) (n0 : Nat) (v : Option Value) (h : Heap) (L : List Loc) : Prop := ∃ b : Addr, v = some (.ref b) ∧ Fr n0 L ∧ Keep h0 h [] ∧ n0 ≤ b ∧ Exa Z h b "com/example/ample_gap/amplegap/simulation/Road" ∧ Fld Z h b "com/example/ample_gap/amplegap/simulation/Road" "lanes" "I" (.int n) ∧ Fld Z h b "com/example/ample_gap/amplegap/simulation/Road" "onRamp" "Lcom/example/ample_gap/amplegap/simulation/OnRamp;" (.ref r)
theorem own_h170 : decode prog_49_method_10_code 0 = .ok (.aload_n 1, 1) := by decide +kernel
theorem own_h171 : decode prog_49_method_10_code 1 = .ok (.ldc 47, 2) := by decide +kernel
theorem own_h172 : decode prog_49_method_10_code 3 = .ok (.invokestatic 49, 3) := by decide +kernel
theorem own_h173 : decode prog_49_method_10_code 6 = .ok (.pop, 1) := by decide +kernel
theorem own_h174 : decode prog_49_method_10_code 7 = .ok (.aload_n 0, 1) := by decide +kernel
theorem own_h175 : decode prog_49_method_10_code 8 = .ok (.getfield 39, 3) := by decide +kernel
theorem own_h176 : decode prog_49_method_10_code 11 = .ok (.ifCond .eq 13, 3) := by decide +kernel
theorem own_h177 : decode prog_49_method_10_code 14 = .ok (.new 12, 3) := by decide +kernel
theorem own_h178 : decode prog_49_method_10_code 17 = .ok (.dup, 1) := by decide +kernel
theorem own_h179 : decode prog_49_method_10_code 18 = .ok (.ldc 55, 2) := by decide +kernel
theorem own_h180 : decode prog_49_method_10_code 20 = .ok (.invokespecial 18, 3) := by decide +kernel
theorem own_h181 : decode prog_49_method_10_code 23 = .ok (.athrow, 1) := by decide +kernel
theorem own_h182 : decode prog_49_method_10_code 24 = .ok (.aload_n 1, 1) := by decide +kernel
theorem own_h183 : decode prog_49_method_10_code 25 = .ok (.invokevirtual 57, 3) := by decide +kernel
theorem own_h184 : decode prog_49_method_10_code 28 = .ok (.aload_n 0, 1) := by decide +kernel
theorem own_h185 : decode prog_49_method_10_code 29 = .ok (.getfield 31, 3) := by decide +kernel
theorem own_h186 : decode prog_49_method_10_code 32 = .ok (.dcmp .l, 1) := by decide +kernel
theorem own_h187 : decode prog_49_method_10_code 33 = .ok (.ifCond .le 24, 3) := by decide +kernel
theorem own_h188 : decode prog_49_method_10_code 36 = .ok (.new 12, 3) := by decide +kernel
theorem own_h189 : decode prog_49_method_10_code 39 = .ok (.dup, 1) := by decide +kernel
theorem own_h190 : decode prog_49_method_10_code 40 = .ok (.aload_n 1, 1) := by decide +kernel
theorem own_h191 : decode prog_49_method_10_code 41 = .ok (.invokevirtual 57, 3) := by decide +kernel
theorem own_h192 : decode prog_49_method_10_code 44 = .ok (.aload_n 0, 1) := by decide +kernel
theorem own_h193 : decode prog_49_method_10_code 45 = .ok (.getfield 31, 3) := by decide +kernel
theorem own_h194 : decode prog_49_method_10_code 48 = .ok (.invokedynamic 63, 5) := by decide +kernel
theorem own_h195 : decode prog_49_method_10_code 53 = .ok (.invokespecial 18, 3) := by decide +kernel
theorem own_h196 : decode prog_49_method_10_code 56 = .ok (.athrow, 1) := by decide +kernel
theorem own_h197 : decode prog_49_method_10_code 57 = .ok (.new 2, 3) := by decide +kernel
theorem own_h198 : decode prog_49_method_10_code 60 = .ok (.dup, 1) := by decide +kernel
theorem own_h199 : decode prog_49_method_10_code 61 = .ok (.aload_n 0, 1) := by decide +kernel
theorem own_h200 : decode prog_49_method_10_code 62 = .ok (.aload_n 1, 1) := by decide +kernel
theorem own_h201 : decode prog_49_method_10_code 63 = .ok (.invokespecial 66, 3) := by decide +kernel
theorem own_h202 : decode prog_49_method_10_code 66 = .ok (.areturn, 1) := by decide +kernel
set_option maxRecDepth 65536 in
set_option maxHeartbeats 40000000 in
theorem rmW (l : Launch) (Z : State) (a0 : Array Value) (hw : ∀ d ∈ tables_1, d.before a0 Z = true) (ws : List Jvm.Cond) (b r : Addr) (d y : UInt64) (n : Int32) (h0 : Heap) (n0 : Nat) (Z0 : n0 ≤ h0.size) (Eb : Exa Z h0 b "com/example/ample_gap/amplegap/simulation/Road") (Er : Exa Z h0 r "com/example/ample_gap/amplegap/simulation/OnRamp") (B1 : Fld Z h0 b "com/example/ample_gap/amplegap/simulation/Road" "length" "D" (.double d)) (B2 : Fld Z h0 b "com/example/ample_gap/amplegap/simulation/Road" "lanes" "I" (.int n)) (B3 : Fld Z h0 b "com/example/ample_gap/amplegap/simulation/Road" "ring" "Z" (.int (0 : Int32))) (Re : Fld Z h0 r "com/example/ample_gap/amplegap/simulation/OnRamp" "end" "D" (.double y)) (q3 : ¬ 0 < cmpValue (FP.dcmp y d) .l) :
    MetFree l (⟨"com/example/ample_gap/amplegap/simulation/Road", "withOnRamp", "(Lcom/example/ample_gap/amplegap/simulation/OnRamp;)Lcom/example/ample_gap/amplegap/simulation/Road;"⟩ : MethodName) (head1 (Jvm.Cond.code (⟨"com/example/ample_gap/amplegap/simulation/Road", "withOnRamp", "(Lcom/example/ample_gap/amplegap/simulation/OnRamp;)Lcom/example/ample_gap/amplegap/simulation/Road;"⟩ : MethodName) prog_49_method_10_code 2 (some (.object "com/example/ample_gap/amplegap/simulation/Road")) :: ws) ({ frames := 2, cells := 3, slots := 24, locals := 27 } : Room)) (fun ar_ U => ar_ = #[(.ref b), (.ref r)] ∧ Z.Warmed39 U.vm ∧ U.heap = h0) (fun _ _ _ _ _ => True) (fun _ U o U' => ∃ v L, o = .returned v ∧ QW Z r n h0 n0 v U'.heap L ∧ ReturnedEndW U o U' L ({ frames := 2, cells := 3, slots := 24, locals := 27 } : Room).cells ({ frames := 2, cells := 3, slots := 24, locals := 27 } : Room).slots) := by
  refine MetFree.of_bodySF (plainFor_of_name own_h103) hisR ?_
  intro p e s m args below meth c s₁ Bd hml0 hP hK
  obtain ⟨rfl, hZ, hh⟩ := hP
  have hx := Bd.exec
  have hby := Bd.bytes
  have hml : c.maxLocals = 2 := hml0
  have hown : s.vm.findClass "com/example/ample_gap/amplegap/simulation/Road" = some m.cls := findClass_of_methodNamed Bd.named
  have hnm := (name_of_methodNamed Bd.named Bd.method).1
  have X0 : Stand p l e ({ frames := 2, cells := 3, slots := 24, locals := 27 } : Room) (s.setVm s.vm) m #[(.ref b), (.ref r)] below meth c s₁ [] 0 0 := Stand.of_body Bd
  have hS0 : s.Since s.vm 0 := (State.WarmedH.refl s).since 0
  have hk0 : 0 ≤ h0.size := Nat.zero_le _
  have hZ : Z.Warmed39 (s.setVm s.vm).vm := hZ
  have hown : (s.setVm s.vm).vm.findClass "com/example/ample_gap/amplegap/simulation/Road" = some m.cls := hown
  have e0 : s₁.heap = h0 := by rw [← hh, Bd.state]; rfl
  have N0 := Fr.nil n0
  have k0 : own_K p e below (s₁.setTop (mkF m 0 #[.val (.ref b), .val (.ref r)] [])) (s₁.setTop (entryFrame m #[(.ref b), (.ref r)] 2)) := fun t k => castTop (by clear k; first | (simp [entryFrame, mkF, argsToLocals, Value.category, maxLocals]; done) | rfl) k
  have K0 : Keep h0 h0 [] := Keep.refl _ _
  have k1 : own_K p e below (s₁.setTop (mkF m 1 #[.val (.ref b), .val (.ref r)] [(.ref r)])) (s₁.setTop (entryFrame m #[(.ref b), (.ref r)] 2)) := fun t hh => k0 t (by
    refine XS.aloadN X0.here hx rfl (hb hby own_h170) rfl rfl ?_
    show Steps p.tables e below (s₁.setTop (mkF m 1 #[.val (.ref b), .val (.ref r)] [(.ref r)])) _
    exact hh)
  obtain ⟨a355, T356, h357, k_358, X359, e360, E361, hS362, hk363, hZ364, hown365, st366⟩ := ldcS X0 hx hZ hown (wT hw 67 rfl) (own_strAtoms hw) e0 hS0 hk0 (g := (mkF m 1 #[.val (.ref b), .val (.ref r)] [(.ref r)])) rfl (hb hby own_h171) (n := 16) (by decide) (by decide) (by decide) (by decide)
  have F367 := Exa.ext (h' := h357) E361 Eb
  have F368 := Exa.ext (h' := h357) E361 Er
  have F369 := Fld.ext (h' := h357) E361 B1
  have F370 := Fld.ext (h' := h357) E361 B2
  have F371 := Fld.ext (h' := h357) E361 B3
  have F372 := Fld.ext (h' := h357) E361 Re
  have Z373 : n0 ≤ h357.size := Nat.le_trans Z0 E361.1
  have P374 : Keep h0 h357 [] := K0.ext E361
  have k2 : own_K p e below (T356.setTop (mkF m 3 #[.val (.ref b), .val (.ref r)] [(.ref a355), (.ref r)])) (s₁.setTop (entryFrame m #[(.ref b), (.ref r)] 2)) := fun t hh => k1 t (st366 t hh)
  obtain ⟨_, _, ⟨T375, L376, k_377, n_378⟩, -, X379, ⟨Lc380, hQ381, l_382, y_383, z_384⟩, st385⟩ := Jvm.LawKit.callS X359 hx (y := (⟨"java/util/Objects", "requireNonNull", "(Ljava/lang/Object;Ljava/lang/String;)Ljava/lang/Object;"⟩ : MethodName)) hown365 (mvT hZ364 (wT hw 68 rfl)) (mvT hZ364 (wT hw 69 rfl)) (mvT hZ364 (wT hw 70 rfl)) (mvT hZ364 (wT hw 71 rfl)) (by decide) (backOf (W := 0) (rmNn l Z a0 hw [] r a355 h357 n0 Z373) hZ364 (wT hw 71 rfl) (wT hw 70 rfl) (by decide) (by decide)) (g := (mkF m 3 #[.val (.ref b), .val (.ref r)] [(.ref a355), (.ref r)])) rfl (by rw [hml]; rfl) (argsL := [(.ref r), (.ref a355)]) (rest := []) (lenOf own_h19 rfl) rfl (by show 2 * 0 + _ ≤ _; exact Nat.le_of_eq rfl) (hb hby own_h172) (fun _ _ => ⟨rfl, e360, (by decide : 2 + 0 ≤ _), (by decide : 20 + 0 ≤ _)⟩)
  dsimp only [Pt.U, Pt.locs, Pt.cells, Pt.slots] at X379 l_382 y_383 z_384 st385 hQ381
  subst l_382 y_383 z_384
  obtain ⟨rfl, N386, e387⟩ := hQ381
  have N388 := Fr.app N0 N386
  have k3 : own_K p e below (T375.setTop (mkF m 6 #[.val (.ref b), .val (.ref r)] [(.ref r)])) (s₁.setTop (entryFrame m #[(.ref b), (.ref r)] 2)) := fun t hh => k2 t (st385 t hh)
  have k4 : own_K p e below (T375.setTop (mkF m 8 #[.val (.ref b), .val (.ref r)] [(.ref b)])) (s₁.setTop (entryFrame m #[(.ref b), (.ref r)] 2)) := fun t hh => k3 t (by
    refine XS.pop X379.here hx rfl (hb hby own_h173) rfl rfl ?_
    show Steps p.tables e below (T375.setTop (mkF m 7 #[.val (.ref b), .val (.ref r)] [])) _
    refine XS.aloadN X379.here hx rfl (hb hby own_h174) rfl rfl ?_
    show Steps p.tables e below (T375.setTop (mkF m 8 #[.val (.ref b), .val (.ref r)] [(.ref b)])) _
    exact hh)
  obtain ⟨T389, X390, e391, st392⟩ := getF X379 hx hZ364 hown365 (host := "") (Or.inl (wT hw 41 rfl)) Via.refl e387 F371 (g := (mkF m 8 #[.val (.ref b), .val (.ref r)] [(.ref b)])) rfl rfl (hb hby own_h175)
  have k5 : own_K p e below (T389.setTop (mkF m 11 #[.val (.ref b), .val (.ref r)] [(.int (0 : Int32))])) (s₁.setTop (entryFrame m #[(.ref b), (.ref r)] 2)) := fun t hh => k4 t (st392 t hh)
  have k6 : own_K p e below (T389.setTop (mkF m 25 #[.val (.ref b), .val (.ref r)] [(.ref r)])) (s₁.setTop (entryFrame m #[(.ref b), (.ref r)] 2)) := fun t hh => k5 t (by
    refine XS.ifYes X390.here hx rfl (pc0 := 11) (pc' := 24) rfl (hb hby own_h176) rfl (by decide) (by decide) (by decide) ?_
    show Steps p.tables e below (T389.setTop (mkF m 24 #[.val (.ref b), .val (.ref r)] [])) _
    refine XS.aloadN X390.here hx rfl (hb hby own_h182) rfl rfl ?_
    show Steps p.tables e below (T389.setTop (mkF m 25 #[.val (.ref b), .val (.ref r)] [(.ref r)])) _
    exact hh)
  obtain ⟨cq404, kq405, qa406, qb407, qc408⟩ := isOf hZ364 e391 F368
  obtain ⟨_, _, ⟨T393, L394, k_395, n_396⟩, -, X397, ⟨Lc398, hQ399, l_400, y_401, z_402⟩, st403⟩ := X390.virtualBack hx (y := (⟨"com/example/ample_gap/amplegap/simulation/OnRamp", "end", "()D"⟩ : MethodName)) (z := (⟨"com/example/ample_gap/amplegap/simulation/OnRamp", "end", "()D"⟩ : MethodName)) hown365 (mvT hZ364 (wT hw 72 rfl)) (mvT hZ364 (wT hw 73 rfl)) (notFace_of_selects (args := #[]) (mvT hZ364 (wT hw 75 rfl))) (mvT hZ364 (wT hw 75 rfl)) (mvT hZ364 (wT hw 74 rfl)) (by decide) (backOf (W := 0) (rmEn l Z a0 hw [] r y h357 n0 Z373 F372) hZ364 (wT hw 76 rfl) (wT hw 47 rfl) (by decide) (by decide)) qa406 qc408 (g := (mkF m 25 #[.val (.ref b), .val (.ref r)] [(.ref r)])) rfl (by rw [hml]; rfl) (Steps.refl _) (argsL := []) (rest := []) (lenOf own_h20 rfl) rfl (by show 2 * 0 + _ ≤ _; exact Nat.le_of_eq rfl) (hb hby own_h183) (fun _ _ => ⟨rfl, e391, (by decide : 2 + 0 ≤ _), (by decide : 20 + 0 ≤ _)⟩)
  dsimp only [Pt.U, Pt.locs, Pt.cells, Pt.slots] at X397 l_400 y_401 z_402 st403 hQ399
  subst l_400 y_401 z_402
  obtain ⟨rfl, N409, e410⟩ := hQ399
  have N411 := Fr.app N388 N409
  have k7 : own_K p e below (T393.setTop (mkF m 28 #[.val (.ref b), .val (.ref r)] [(.double y)])) (s₁.setTop (entryFrame m #[(.ref b), (.ref r)] 2)) := fun t hh => k6 t (st403.trans hh)
  have k8 : own_K p e below (T393.setTop (mkF m 29 #[.val (.ref b), .val (.ref r)] [(.ref b), (.double y)])) (s₁.setTop (entryFrame m #[(.ref b), (.ref r)] 2)) := fun t hh => k7 t (by
    refine XS.aloadN X397.here hx rfl (hb hby own_h184) rfl rfl ?_
    show Steps p.tables e below (T393.setTop (mkF m 29 #[.val (.ref b), .val (.ref r)] [(.ref b), (.double y)])) _
    exact hh)
  obtain ⟨T412, X413, e414, st415⟩ := getF X397 hx hZ364 hown365 (host := "") (Or.inl (wT hw 37 rfl)) Via.refl e410 F369 (g := (mkF m 29 #[.val (.ref b), .val (.ref r)] [(.ref b), (.double y)])) rfl rfl (hb hby own_h185)
  have k9 : own_K p e below (T412.setTop (mkF m 32 #[.val (.ref b), .val (.ref r)] [(.double d), (.double y)])) (s₁.setTop (entryFrame m #[(.ref b), (.ref r)] 2)) := fun t hh => k8 t (st415 t hh)
  have k10 : own_K p e below (T412.setTop (mkF m 57 #[.val (.ref b), .val (.ref r)] [])) (s₁.setTop (entryFrame m #[(.ref b), (.ref r)] 2)) := fun t hh => k9 t (by
    refine XS.dcmpS X413.here hx rfl (hb hby own_h186) rfl rfl ?_
    show Steps p.tables e below (T412.setTop (mkF m 33 #[.val (.ref b), .val (.ref r)] [(.int (cmpValue (FP.dcmp y d) .l))])) _
    refine XS.ifYes X413.here hx rfl (pc0 := 33) (pc' := 57) rfl (hb hby own_h187) rfl (own_ifT_le q3) (by decide) (by decide) ?_
    show Steps p.tables e below (T412.setTop (mkF m 57 #[.val (.ref b), .val (.ref r)] [])) _
    exact hh)
  obtain ⟨T416, h417, X418, e419, E420, A421, D422, U424, st423⟩ := newO X413 hx hZ364 hown365 (wT hw 77 rfl) (wT hw 2 rfl) (wT hw 3 rfl) e414 (g := (mkF m 57 #[.val (.ref b), .val (.ref r)] [])) rfl (hb hby own_h197) (by decide) (by decide)
  obtain ⟨a425, g426⟩ : ∃ z, z = h357.size := ⟨_, rfl⟩
  rw [← g426] at A421 D422 U424 st423
  have H0427 : h0.size ≤ a425 := Nat.le_trans P374.1 (Nat.le_of_eq g426.symm)
  have G428 : n0 ≤ a425 := Nat.le_trans Z373 (Nat.le_of_eq g426.symm)
  have hk429 := Nat.le_trans hk363 (show h357.size ≤ h417.size from E420.1)
  have F430 := Exa.ext (h' := h417) E420 F367
  have F431 := Exa.ext (h' := h417) E420 F368
  have F432 := Fld.ext (h' := h417) E420 F369
  have F433 := Fld.ext (h' := h417) E420 F370
  have F434 := Fld.ext (h' := h417) E420 F371
  have F435 := Fld.ext (h' := h417) E420 F372
  have Z436 : n0 ≤ h417.size := Nat.le_trans Z373 E420.1
  have P437 : Keep h0 h417 [] := P374.ext E420
  have F438 : Fld Z h417 a425 "com/example/ample_gap/amplegap/simulation/Road" "length" "D" (.double (0 : UInt64)) := D422 (Or.inr (wT hw 38 rfl)) (ty := .double) (by decide)
  have F439 : Fld Z h417 a425 "com/example/ample_gap/amplegap/simulation/Road" "lanes" "I" (.int (0 : Int32)) := D422 (Or.inr (wT hw 40 rfl)) (ty := .int) (by decide)
  have F440 : Fld Z h417 a425 "com/example/ample_gap/amplegap/simulation/Road" "ring" "Z" (.int (0 : Int32)) := D422 (Or.inr (wT hw 42 rfl)) (ty := .boolean) (by decide)
  have F441 : Fld Z h417 a425 "com/example/ample_gap/amplegap/simulation/Road" "onRamp" "Lcom/example/ample_gap/amplegap/simulation/OnRamp;" .null := D422 (Or.inr (wT hw 44 rfl)) (ty := .object "com/example/ample_gap/amplegap/simulation/OnRamp") (by decide)
  have k11 : own_K p e below (T416.setTop (mkF m 60 #[.val (.ref b), .val (.ref r)] [(.ref a425)])) (s₁.setTop (entryFrame m #[(.ref b), (.ref r)] 2)) := fun t hh => k10 t (st423 t hh)
  have k12 : own_K p e below (T416.setTop (mkF m 63 #[.val (.ref b), .val (.ref r)] [(.ref r), (.ref b), (.ref a425), (.ref a425)])) (s₁.setTop (entryFrame m #[(.ref b), (.ref r)] 2)) := fun t hh => k11 t (by
    refine XS.dup X418.here hx rfl (hb hby own_h198) rfl rfl ?_
    show Steps p.tables e below (T416.setTop (mkF m 61 #[.val (.ref b), .val (.ref r)] [(.ref a425), (.ref a425)])) _
    refine XS.aloadN X418.here hx rfl (hb hby own_h199) rfl rfl ?_
    show Steps p.tables e below (T416.setTop (mkF m 62 #[.val (.ref b), .val (.ref r)] [(.ref b), (.ref a425), (.ref a425)])) _
    refine XS.aloadN X418.here hx rfl (hb hby own_h200) rfl rfl ?_
    show Steps p.tables e below (T416.setTop (mkF m 63 #[.val (.ref b), .val (.ref r)] [(.ref r), (.ref b), (.ref a425), (.ref a425)])) _
    exact hh)
  have ne453 : b ≠ a425 := by rw [g426]; exact Nat.ne_of_lt F367.lt
  obtain ⟨_, _, ⟨T442, L443, k_444, n_445⟩, -, X446, ⟨Lc447, hQ448, l_449, y_450, z_451⟩, st452⟩ := X418.specialBack hx (y := (⟨"com/example/ample_gap/amplegap/simulation/Road", "<init>", "(Lcom/example/ample_gap/amplegap/simulation/Road;Lcom/example/ample_gap/amplegap/simulation/OnRamp;)V"⟩ : MethodName)) rfl hown365 (mvT hZ364 (wT hw 78 rfl)) (mvT hZ364 (wT hw 79 rfl)) (mvT hZ364 (wT hw 80 rfl)) (by decide) (backOf (W := 1) (rmB l Z a0 hw [] a425 b r d n (0 : Int32) h417 n0 Z436 A421 G428 F438 F439 F440 F441 ne453 F432 F433 F434 rfl rfl) hZ364 (wT hw 80 rfl) (wT hw 3 rfl) (by decide) (by decide)) (g := (mkF m 63 #[.val (.ref b), .val (.ref r)] [(.ref r), (.ref b), (.ref a425), (.ref a425)])) rfl (by rw [hml]; rfl) (Steps.refl _) (a := a425) (argsL := [(.ref b), (.ref r)]) (rest := [(.ref a425)]) (lenOf own_h21 rfl) rfl (by show 2 * 0 + _ ≤ _; exact Nat.le_of_eq rfl) (hb hby own_h201) (fun _ _ => ⟨rfl, e419, (by decide : 3 + 0 ≤ _), (by decide : 24 + 0 ≤ _)⟩)
  dsimp only [Pt.U, Pt.locs, Pt.cells, Pt.slots] at X446 l_449 y_450 z_451 st452 hQ448
  subst l_449 y_450 z_451
  obtain ⟨rfl, N454, K455, E456, F457, F458⟩ := hQ448
  have N459 := Fr.app N411 N454
  have F460 := F430.keep K455
  have F461 := F431.keep K455
  have F462 := F432.keep K455 (ninS ne453 nin0)
  have F463 := F433.keep K455 (ninS ne453 nin0)
  have F464 := F434.keep K455 (ninS ne453 nin0)
  have ne466 : r ≠ a425 := by rw [g426]; exact Nat.ne_of_lt F368.lt
  have F465 := F435.keep K455 (ninS ne466 nin0)
  have F467 := A421.keep K455
  have Z468 : n0 ≤ T442.heap.size := Nat.le_trans Z436 K455.1
  have hk469 := Nat.le_trans hk429 (show h417.size ≤ T442.heap.size from K455.1)
  have P470 : Keep h0 T442.heap [] := P437.trans K455 (allS (P := fun x => x ∈ [] ∨ h0.size ≤ x) (Or.inr H0427) all0)
  have e471 : T442.heap = T442.heap := rfl
  have k13 : own_K p e below (T442.setTop (mkF m 66 #[.val (.ref b), .val (.ref r)] [(.ref a425)])) (s₁.setTop (entryFrame m #[(.ref b), (.ref r)] 2)) := fun t hh => k12 t (st452.trans hh)
  obtain ⟨fs, hr, hrun, hended, hEnd⟩ := X446.leaveW hS362 (by rw [e471]; exact hk469) (v := some (.ref a425)) (fun h => by rw [Bd.returns] at h; cases h)
  refine ⟨_, _, k13 _ (retOut X446 hx (t := .object "com/example/ample_gap/amplegap/simulation/Road") Bd.returns rfl (Or.inr (Or.inr (Or.inr (Or.inr ⟨rfl, rfl, rfl⟩)))) (hb hby own_h202) hr), hrun, hended, _, _, rfl, ?_, hEnd.1, hEnd.2.1, hEnd.2.2.1, hEnd.2.2.2.mono (by decide) (by decide)⟩
  show QW Z r n h0 n0 _ T442.heap _
  rw [e471]
  exact ⟨_, rfl, N459, P470, G428, E456, F457, F458⟩
theorem own_h203 : decode prog_49_method_12_code 0 = .ok (.aload_n 0, 1) := by decide +kernel
theorem own_h204 : decode prog_49_method_12_code 1 = .ok (.getfield 43, 3) := by decide +kernel
theorem own_h205 : decode prog_49_method_12_code 4 = .ok (.ifnonnull 7, 3) := by decide +kernel
theorem own_h206 : decode prog_49_method_12_code 7 = .ok (.iconst 1, 1) := by decide +kernel
theorem own_h207 : decode prog_49_method_12_code 8 = .ok (.goto 4, 3) := by decide +kernel
theorem own_h208 : decode prog_49_method_12_code 11 = .ok (.iconst 0, 1) := by decide +kernel
theorem own_h209 : decode prog_49_method_12_code 12 = .ok (.ireturn, 1) := by decide +kernel
set_option maxRecDepth 65536 in
set_option maxHeartbeats 40000000 in
theorem rmL1 (l : Launch) (Z : State) (a0 : Array Value) (hw : ∀ d ∈ tables_1, d.before a0 Z = true) (ws : List Jvm.Cond) (a : Addr) (h0 : Heap) (n0 : Nat) (Z0 : n0 ≤ h0.size) (F1 : Fld Z h0 a "com/example/ample_gap/amplegap/simulation/Road" "onRamp" "Lcom/example/ample_gap/amplegap/simulation/OnRamp;" .null) :
    MetFree l (⟨"com/example/ample_gap/amplegap/simulation/Road", "lowestLane", "()I"⟩ : MethodName) (head1 (Jvm.Cond.code (⟨"com/example/ample_gap/amplegap/simulation/Road", "lowestLane", "()I"⟩ : MethodName) prog_49_method_12_code 1 (some .int) :: ws) ({ frames := 0, cells := 0, slots := 0, locals := 0 } : Room)) (fun ar_ U => ar_ = #[(.ref a)] ∧ Z.Warmed39 U.vm ∧ U.heap = h0) (fun _ _ _ _ _ => True) (fun _ U o U' => ∃ v L, o = .returned v ∧ QI (1 : Int32) h0 n0 v U'.heap L ∧ FrameEnd U o U' L ({ frames := 0, cells := 0, slots := 0, locals := 0 } : Room).cells ({ frames := 0, cells := 0, slots := 0, locals := 0 } : Room).slots) := by
  refine MetFree.of_bodySF (plainFor_of_name own_h103) hisR ?_
  intro p e s m args below meth c s₁ Bd hml0 hP hK
  obtain ⟨rfl, hZ, hh⟩ := hP
  have hx := Bd.exec
  have hby := Bd.bytes
  have hml : c.maxLocals = 1 := hml0
  have hown : s.vm.findClass "com/example/ample_gap/amplegap/simulation/Road" = some m.cls := findClass_of_methodNamed Bd.named
  have hnm := (name_of_methodNamed Bd.named Bd.method).1
  have X0 : Stand p l e ({ frames := 0, cells := 0, slots := 0, locals := 0 } : Room) s m #[(.ref a)] below meth c s₁ [] 0 0 := Stand.of_body Bd
  have e0 : s₁.heap = h0 := by rw [← hh, Bd.state]; rfl
  have N0 := Fr.nil n0
  have k0 : own_K p e below (s₁.setTop (mkF m 0 #[.val (.ref a)] [])) (s₁.setTop (entryFrame m #[(.ref a)] 1)) := fun t k => castTop (by clear k; first | (simp [entryFrame, mkF, argsToLocals, Value.category, maxLocals]; done) | rfl) k
  have k1 : own_K p e below (s₁.setTop (mkF m 1 #[.val (.ref a)] [(.ref a)])) (s₁.setTop (entryFrame m #[(.ref a)] 1)) := fun t hh => k0 t (by
    refine XS.aloadN X0.here hx rfl (hb hby own_h203) rfl rfl ?_
    show Steps p.tables e below (s₁.setTop (mkF m 1 #[.val (.ref a)] [(.ref a)])) _
    exact hh)
  obtain ⟨T472, X473, e474, st475⟩ := getF X0 hx hZ hown (host := "") (Or.inl (wT hw 43 rfl)) Via.refl e0 F1 (g := (mkF m 1 #[.val (.ref a)] [(.ref a)])) rfl rfl (hb hby own_h204)
  have k2 : own_K p e below (T472.setTop (mkF m 4 #[.val (.ref a)] [.null])) (s₁.setTop (entryFrame m #[(.ref a)] 1)) := fun t hh => k1 t (st475 t hh)
  have k3 : own_K p e below (T472.setTop (mkF m 12 #[.val (.ref a)] [(.int (1 : Int32))])) (s₁.setTop (entryFrame m #[(.ref a)] 1)) := fun t hh => k2 t (by
    refine XS.ifnonnullNo X473.here hx rfl (hb hby own_h205) rfl ?_
    show Steps p.tables e below (T472.setTop (mkF m 7 #[.val (.ref a)] [])) _
    refine XS.iconst X473.here hx rfl (hb hby own_h206) ?_
    show Steps p.tables e below (T472.setTop (mkF m 8 #[.val (.ref a)] [(.int (1 : Int32))])) _
    refine XS.goto X473.here hx rfl (pc0 := 8) (pc' := 12) rfl (hb hby own_h207) (by decide) (by decide) ?_
    show Steps p.tables e below (T472.setTop (mkF m 12 #[.val (.ref a)] [(.int (1 : Int32))])) _
    exact hh)
  obtain ⟨fs, hr, hrun, hended, hW, hsame⟩ := X473.leave (v := some (.int (1 : Int32))) (fun h => by rw [Bd.returns] at h; cases h)
  refine ⟨_, _, k3 _ (retOut X473 hx (t := .int) Bd.returns rfl (Or.inl ⟨rfl, (by simp), _, rfl⟩) (hb hby own_h209) hr), hrun, hended, _, _, rfl, ?_, ⟨_, rfl⟩, hW, hsame.mono (by decide) (by decide)⟩
  show QI (1 : Int32) h0 n0 _ T472.heap _
  rw [e474]
  exact ⟨rfl, N0, rfl⟩
set_option maxRecDepth 65536 in
set_option maxHeartbeats 40000000 in
theorem rmL0 (l : Launch) (Z : State) (a0 : Array Value) (hw : ∀ d ∈ tables_1, d.before a0 Z = true) (ws : List Jvm.Cond) (a r : Addr) (h0 : Heap) (n0 : Nat) (Z0 : n0 ≤ h0.size) (F1 : Fld Z h0 a "com/example/ample_gap/amplegap/simulation/Road" "onRamp" "Lcom/example/ample_gap/amplegap/simulation/OnRamp;" (.ref r)) :
    MetFree l (⟨"com/example/ample_gap/amplegap/simulation/Road", "lowestLane", "()I"⟩ : MethodName) (head1 (Jvm.Cond.code (⟨"com/example/ample_gap/amplegap/simulation/Road", "lowestLane", "()I"⟩ : MethodName) prog_49_method_12_code 1 (some .int) :: ws) ({ frames := 0, cells := 0, slots := 0, locals := 0 } : Room)) (fun ar_ U => ar_ = #[(.ref a)] ∧ Z.Warmed39 U.vm ∧ U.heap = h0) (fun _ _ _ _ _ => True) (fun _ U o U' => ∃ v L, o = .returned v ∧ QI (0 : Int32) h0 n0 v U'.heap L ∧ FrameEnd U o U' L ({ frames := 0, cells := 0, slots := 0, locals := 0 } : Room).cells ({ frames := 0, cells := 0, slots := 0, locals := 0 } : Room).slots) := by
  refine MetFree.of_bodySF (plainFor_of_name own_h103) hisR ?_
  intro p e s m args below meth c s₁ Bd hml0 hP hK
  obtain ⟨rfl, hZ, hh⟩ := hP
  have hx := Bd.exec
  have hby := Bd.bytes
  have hml : c.maxLocals = 1 := hml0
  have hown : s.vm.findClass "com/example/ample_gap/amplegap/simulation/Road" = some m.cls := findClass_of_methodNamed Bd.named
  have hnm := (name_of_methodNamed Bd.named Bd.method).1
  have X0 : Stand p l e ({ frames := 0, cells := 0, slots := 0, locals := 0 } : Room) s m #[(.ref a)] below meth c s₁ [] 0 0 := Stand.of_body Bd
  have e0 : s₁.heap = h0 := by rw [← hh, Bd.state]; rfl
  have N0 := Fr.nil n0
  have k0 : own_K p e below (s₁.setTop (mkF m 0 #[.val (.ref a)] [])) (s₁.setTop (entryFrame m #[(.ref a)] 1)) := fun t k => castTop (by clear k; first | (simp [entryFrame, mkF, argsToLocals, Value.category, maxLocals]; done) | rfl) k
  have k1 : own_K p e below (s₁.setTop (mkF m 1 #[.val (.ref a)] [(.ref a)])) (s₁.setTop (entryFrame m #[(.ref a)] 1)) := fun t hh => k0 t (by
    refine XS.aloadN X0.here hx rfl (hb hby own_h203) rfl rfl ?_
    show Steps p.tables e below (s₁.setTop (mkF m 1 #[.val (.ref a)] [(.ref a)])) _
    exact hh)
  obtain ⟨T476, X477, e478, st479⟩ := getF X0 hx hZ hown (host := "") (Or.inl (wT hw 43 rfl)) Via.refl e0 F1 (g := (mkF m 1 #[.val (.ref a)] [(.ref a)])) rfl rfl (hb hby own_h204)
  have k2 : own_K p e below (T476.setTop (mkF m 4 #[.val (.ref a)] [(.ref r)])) (s₁.setTop (entryFrame m #[(.ref a)] 1)) := fun t hh => k1 t (st479 t hh)
  have k3 : own_K p e below (T476.setTop (mkF m 12 #[.val (.ref a)] [(.int (0 : Int32))])) (s₁.setTop (entryFrame m #[(.ref a)] 1)) := fun t hh => k2 t (by
    refine XS.ifnonnullYes X477.here hx rfl (pc0 := 4) (pc' := 11) rfl (hb hby own_h205) rfl (by decide) (by decide) ?_
    show Steps p.tables e below (T476.setTop (mkF m 11 #[.val (.ref a)] [])) _
    refine XS.iconst X477.here hx rfl (hb hby own_h208) ?_
    show Steps p.tables e below (T476.setTop (mkF m 12 #[.val (.ref a)] [(.int (0 : Int32))])) _
    exact hh)
  obtain ⟨fs, hr, hrun, hended, hW, hsame⟩ := X477.leave (v := some (.int (0 : Int32))) (fun h => by rw [Bd.returns] at h; cases h)
  refine ⟨_, _, k3 _ (retOut X477 hx (t := .int) Bd.returns rfl (Or.inl ⟨rfl, (by simp), _, rfl⟩) (hb hby own_h209) hr), hrun, hended, _, _, rfl, ?_, ⟨_, rfl⟩, hW, hsame.mono (by decide) (by decide)⟩
  show QI (0 : Int32) h0 n0 _ T476.heap _
  rw [e478]
  exact ⟨rfl, N0, rfl⟩
def QL (h0 : Heap) (n0 : Nat) (v : Option Value) (h : Heap) (L : List Loc) : Prop := v = some (.int 1) ∧ Fr n0 L
theorem own_h210 : plainName "com/example/ample_gap/amplegap/simulation/RoadLowestLanePinLaw" = true := by first | (simp [plainName, overriddenIn]; done) | decide +kernel
set_option maxRecDepth 65536 in
set_option maxHeartbeats 40000000 in
theorem rmL (l : Launch) (Z : State) (a0 : Array Value) (hw : ∀ d ∈ tables_1, d.before a0 Z = true) (ws : List Jvm.Cond) (av bv cv fv : Int32) (h0 : Heap) (n0 : Nat) (Z0 : n0 ≤ h0.size) :
    MetFree l x (head1 (Jvm.Cond.code x code maxLocals ret :: ws) room_1) (fun ar_ U => ar_ = #[(.int av), (.int bv), (.int cv), (.int fv)] ∧ Z.Warmed39 U.vm ∧ U.heap = h0) (fun _ _ _ _ _ => True) (fun _ U o U' => ∃ v L, o = .returned v ∧ QL h0 n0 v U'.heap L ∧ ReturnedEndW U o U' L 24 4224) := by
  refine MetFree.of_bodySF (plainFor_of_name own_h210) hisR ?_
  intro p e s m args below meth c s₁ Bd hml0 hP hK
  obtain ⟨rfl, hZ, hh⟩ := hP
  have hx := Bd.exec
  have hby := Bd.bytes
  have hml : c.maxLocals = 13 := hml0
  have hown : s.vm.findClass "com/example/ample_gap/amplegap/simulation/RoadLowestLanePinLaw" = some m.cls := findClass_of_methodNamed Bd.named
  have hnm := (name_of_methodNamed Bd.named Bd.method).1
  have X0 : Stand p l e room_1 (s.setVm s.vm) m #[(.int av), (.int bv), (.int cv), (.int fv)] below meth c s₁ [] 0 0 := Stand.of_body Bd
  have hS0 : s.Since s.vm 0 := (State.WarmedH.refl s).since 0
  have hk0 : 0 ≤ h0.size := Nat.zero_le _
  have hZ : Z.Warmed39 (s.setVm s.vm).vm := hZ
  have hown : (s.setVm s.vm).vm.findClass "com/example/ample_gap/amplegap/simulation/RoadLowestLanePinLaw" = some m.cls := hown
  have e0 : s₁.heap = h0 := by rw [← hh, Bd.state]; rfl
  have N0 := Fr.nil n0
  have k0 : own_K p e below (s₁.setTop (mkF m 0 #[.val (.int av), .val (.int bv), .val (.int cv), .val (.int fv), .unset, .unset, .unset, .unset, .unset, .unset, .unset, .unset, .unset] [])) (s₁.setTop (entryFrame m #[(.int av), (.int bv), (.int cv), (.int fv)] maxLocals)) := fun t k => castTop (by clear k; first | (simp [entryFrame, mkF, argsToLocals, Value.category, maxLocals]; done) | rfl) k
  have k1 : own_K p e below (s₁.setTop (mkF m 9 #[.val (.int av), .val (.int bv), .val (.int cv), .val (.int fv), .val (.int ((av &&& (1023 : Int32)) + (1 : Int32))), .unset, .unset, .unset, .unset, .unset, .unset, .unset, .unset] [])) (s₁.setTop (entryFrame m #[(.int av), (.int bv), (.int cv), (.int fv)] maxLocals)) := fun t hh => k0 t (by
    refine XS.iloadN X0.here hx rfl (hb hby at_0) rfl ?_
    show Steps p.tables e below (s₁.setTop (mkF m 1 #[.val (.int av), .val (.int bv), .val (.int cv), .val (.int fv), .unset, .unset, .unset, .unset, .unset, .unset, .unset, .unset, .unset] [(.int av)])) _
    refine XS.sipush X0.here hx rfl (hb hby at_1) ?_
    show Steps p.tables e below (s₁.setTop (mkF m 4 #[.val (.int av), .val (.int bv), .val (.int cv), .val (.int fv), .unset, .unset, .unset, .unset, .unset, .unset, .unset, .unset, .unset] [(.int (1023 : Int32)), (.int av)])) _
    refine XS.iand X0.here hx rfl (hb hby at_4) rfl ?_
    show Steps p.tables e below (s₁.setTop (mkF m 5 #[.val (.int av), .val (.int bv), .val (.int cv), .val (.int fv), .unset, .unset, .unset, .unset, .unset, .unset, .unset, .unset, .unset] [(.int (av &&& (1023 : Int32)))])) _
    refine XS.iconst X0.here hx rfl (hb hby at_5) ?_
    show Steps p.tables e below (s₁.setTop (mkF m 6 #[.val (.int av), .val (.int bv), .val (.int cv), .val (.int fv), .unset, .unset, .unset, .unset, .unset, .unset, .unset, .unset, .unset] [(.int (1 : Int32)), (.int (av &&& (1023 : Int32)))])) _
    refine XS.iadd X0.here hx rfl (hb hby at_6) rfl ?_
    show Steps p.tables e below (s₁.setTop (mkF m 7 #[.val (.int av), .val (.int bv), .val (.int cv), .val (.int fv), .unset, .unset, .unset, .unset, .unset, .unset, .unset, .unset, .unset] [(.int ((av &&& (1023 : Int32)) + (1 : Int32)))])) _
    refine XS.istore X0.here hx rfl (hb hby at_7) rfl (l' := #[.val (.int av), .val (.int bv), .val (.int cv), .val (.int fv), .val (.int ((av &&& (1023 : Int32)) + (1 : Int32))), .unset, .unset, .unset, .unset, .unset, .unset, .unset, .unset]) rfl ?_
    show Steps p.tables e below (s₁.setTop (mkF m 9 #[.val (.int av), .val (.int bv), .val (.int cv), .val (.int fv), .val (.int ((av &&& (1023 : Int32)) + (1 : Int32))), .unset, .unset, .unset, .unset, .unset, .unset, .unset, .unset] [])) _
    exact hh)
  have k2 : own_K p e below (s₁.setTop (mkF m 9 #[.val (.int av), .val (.int bv), .val (.int cv), .val (.int fv), .val (.int (own_len av)), .unset, .unset, .unset, .unset, .unset, .unset, .unset, .unset] [])) (s₁.setTop (entryFrame m #[(.int av), (.int bv), (.int cv), (.int fv)] maxLocals)) := k1
  have k3 : own_K p e below (s₁.setTop (mkF m 12 #[.val (.int av), .val (.int bv), .val (.int cv), .val (.int fv), .val (.int (own_len av)), .unset, .unset, .unset, .unset, .unset, .unset, .unset, .unset] [(.int (fv &&& (1 : Int32)))])) (s₁.setTop (entryFrame m #[(.int av), (.int bv), (.int cv), (.int fv)] maxLocals)) := fun t hh => k2 t (by
    refine XS.iloadN X0.here hx rfl (hb hby at_9) rfl ?_
    show Steps p.tables e below (s₁.setTop (mkF m 10 #[.val (.int av), .val (.int bv), .val (.int cv), .val (.int fv), .val (.int (own_len av)), .unset, .unset, .unset, .unset, .unset, .unset, .unset, .unset] [(.int fv)])) _
    refine XS.iconst X0.here hx rfl (hb hby at_10) ?_
    show Steps p.tables e below (s₁.setTop (mkF m 11 #[.val (.int av), .val (.int bv), .val (.int cv), .val (.int fv), .val (.int (own_len av)), .unset, .unset, .unset, .unset, .unset, .unset, .unset, .unset] [(.int (1 : Int32)), (.int fv)])) _
    refine XS.iand X0.here hx rfl (hb hby at_11) rfl ?_
    show Steps p.tables e below (s₁.setTop (mkF m 12 #[.val (.int av), .val (.int bv), .val (.int cv), .val (.int fv), .val (.int (own_len av)), .unset, .unset, .unset, .unset, .unset, .unset, .unset, .unset] [(.int (fv &&& (1 : Int32)))])) _
    exact hh)
  by_cases c12 : (fv &&& (1 : Int32)) = 0
  ·
    have k4 : own_K p e below (s₁.setTop (mkF m 31 #[.val (.int av), .val (.int bv), .val (.int cv), .val (.int fv), .val (.int (own_len av)), .val (.int (0 : Int32)), .val (.int ((bv &&& (2147483647 : Int32)) % (own_len av))), .unset, .unset, .unset, .unset, .unset, .unset] [])) (s₁.setTop (entryFrame m #[(.int av), (.int bv), (.int cv), (.int fv)] maxLocals)) := fun t hh => k3 t (by
      refine XS.ifYes X0.here hx rfl (pc0 := 12) (pc' := 19) rfl (hb hby at_12) rfl (own_ifT_eq c12) (by decide) (by decide) ?_
      show Steps p.tables e below (s₁.setTop (mkF m 19 #[.val (.int av), .val (.int bv), .val (.int cv), .val (.int fv), .val (.int (own_len av)), .unset, .unset, .unset, .unset, .unset, .unset, .unset, .unset] [])) _
      refine XS.iconst X0.here hx rfl (hb hby at_19) ?_
      show Steps p.tables e below (s₁.setTop (mkF m 20 #[.val (.int av), .val (.int bv), .val (.int cv), .val (.int fv), .val (.int (own_len av)), .unset, .unset, .unset, .unset, .unset, .unset, .unset, .unset] [(.int (0 : Int32))])) _
      refine XS.istore X0.here hx rfl (hb hby at_20) rfl (l' := #[.val (.int av), .val (.int bv), .val (.int cv), .val (.int fv), .val (.int (own_len av)), .val (.int (0 : Int32)), .unset, .unset, .unset, .unset, .unset, .unset, .unset]) rfl ?_
      show Steps p.tables e below (s₁.setTop (mkF m 22 #[.val (.int av), .val (.int bv), .val (.int cv), .val (.int fv), .val (.int (own_len av)), .val (.int (0 : Int32)), .unset, .unset, .unset, .unset, .unset, .unset, .unset] [])) _
      refine XS.iloadN X0.here hx rfl (hb hby at_22) rfl ?_
      show Steps p.tables e below (s₁.setTop (mkF m 23 #[.val (.int av), .val (.int bv), .val (.int cv), .val (.int fv), .val (.int (own_len av)), .val (.int (0 : Int32)), .unset, .unset, .unset, .unset, .unset, .unset, .unset] [(.int bv)])) _
      refine X0.ldcInt hx hown (mvT hZ (wT hw 0 rfl)) (g := (mkF m 23 #[.val (.int av), .val (.int bv), .val (.int cv), .val (.int fv), .val (.int (own_len av)), .val (.int (0 : Int32)), .unset, .unset, .unset, .unset, .unset, .unset, .unset] [(.int bv)])) rfl (hb hby at_23) _ ?_
      show Steps p.tables e below (s₁.setTop (mkF m 25 #[.val (.int av), .val (.int bv), .val (.int cv), .val (.int fv), .val (.int (own_len av)), .val (.int (0 : Int32)), .unset, .unset, .unset, .unset, .unset, .unset, .unset] [(.int (2147483647 : Int32)), (.int bv)])) _
      refine XS.iand X0.here hx rfl (hb hby at_25) rfl ?_
      show Steps p.tables e below (s₁.setTop (mkF m 26 #[.val (.int av), .val (.int bv), .val (.int cv), .val (.int fv), .val (.int (own_len av)), .val (.int (0 : Int32)), .unset, .unset, .unset, .unset, .unset, .unset, .unset] [(.int (bv &&& (2147483647 : Int32)))])) _
      refine XS.iload X0.here hx rfl (hb hby at_26) rfl ?_
      show Steps p.tables e below (s₁.setTop (mkF m 28 #[.val (.int av), .val (.int bv), .val (.int cv), .val (.int fv), .val (.int (own_len av)), .val (.int (0 : Int32)), .unset, .unset, .unset, .unset, .unset, .unset, .unset] [(.int (own_len av)), (.int (bv &&& (2147483647 : Int32)))])) _
      refine iremM X0 hx (g := (mkF m 28 #[.val (.int av), .val (.int bv), .val (.int cv), .val (.int fv), .val (.int (own_len av)), .val (.int (0 : Int32)), .unset, .unset, .unset, .unset, .unset, .unset, .unset] [(.int (own_len av)), (.int (bv &&& (2147483647 : Int32)))])) rfl (hb hby at_28) rfl (own_len_ne av) ?_
      show Steps p.tables e below (s₁.setTop (mkF m 29 #[.val (.int av), .val (.int bv), .val (.int cv), .val (.int fv), .val (.int (own_len av)), .val (.int (0 : Int32)), .unset, .unset, .unset, .unset, .unset, .unset, .unset] [(.int ((bv &&& (2147483647 : Int32)) % (own_len av)))])) _
      refine XS.istore X0.here hx rfl (hb hby at_29) rfl (l' := #[.val (.int av), .val (.int bv), .val (.int cv), .val (.int fv), .val (.int (own_len av)), .val (.int (0 : Int32)), .val (.int ((bv &&& (2147483647 : Int32)) % (own_len av))), .unset, .unset, .unset, .unset, .unset, .unset]) rfl ?_
      show Steps p.tables e below (s₁.setTop (mkF m 31 #[.val (.int av), .val (.int bv), .val (.int cv), .val (.int fv), .val (.int (own_len av)), .val (.int (0 : Int32)), .val (.int ((bv &&& (2147483647 : Int32)) % (own_len av))), .unset, .unset, .unset, .unset, .unset, .unset] [])) _
      exact hh)
    have k5 : own_K p e below (s₁.setTop (mkF m 31 #[.val (.int av), .val (.int bv), .val (.int cv), .val (.int fv), .val (.int (own_len av)), .val (.int (0 : Int32)), .val (.int (own_st av bv)), .unset, .unset, .unset, .unset, .unset, .unset] [])) (s₁.setTop (entryFrame m #[(.int av), (.int bv), (.int cv), (.int fv)] maxLocals)) := k4
    have k6 : own_K p e below (s₁.setTop (mkF m 48 #[.val (.int av), .val (.int bv), .val (.int cv), .val (.int fv), .val (.int (own_len av)), .val (.int (0 : Int32)), .val (.int (own_st av bv)), .val (.int (((own_st av bv) + (1 : Int32)) + ((cv &&& (2147483647 : Int32)) % ((own_len av) - (own_st av bv))))), .unset, .unset, .unset, .unset, .unset] [])) (s₁.setTop (entryFrame m #[(.int av), (.int bv), (.int cv), (.int fv)] maxLocals)) := fun t hh => k5 t (by
      refine XS.iload X0.here hx rfl (hb hby at_31) rfl ?_
      show Steps p.tables e below (s₁.setTop (mkF m 33 #[.val (.int av), .val (.int bv), .val (.int cv), .val (.int fv), .val (.int (own_len av)), .val (.int (0 : Int32)), .val (.int (own_st av bv)), .unset, .unset, .unset, .unset, .unset, .unset] [(.int (own_st av bv))])) _
      refine XS.iconst X0.here hx rfl (hb hby at_33) ?_
      show Steps p.tables e below (s₁.setTop (mkF m 34 #[.val (.int av), .val (.int bv), .val (.int cv), .val (.int fv), .val (.int (own_len av)), .val (.int (0 : Int32)), .val (.int (own_st av bv)), .unset, .unset, .unset, .unset, .unset, .unset] [(.int (1 : Int32)), (.int (own_st av bv))])) _
      refine XS.iadd X0.here hx rfl (hb hby at_34) rfl ?_
      show Steps p.tables e below (s₁.setTop (mkF m 35 #[.val (.int av), .val (.int bv), .val (.int cv), .val (.int fv), .val (.int (own_len av)), .val (.int (0 : Int32)), .val (.int (own_st av bv)), .unset, .unset, .unset, .unset, .unset, .unset] [(.int ((own_st av bv) + (1 : Int32)))])) _
      refine XS.iloadN X0.here hx rfl (hb hby at_35) rfl ?_
      show Steps p.tables e below (s₁.setTop (mkF m 36 #[.val (.int av), .val (.int bv), .val (.int cv), .val (.int fv), .val (.int (own_len av)), .val (.int (0 : Int32)), .val (.int (own_st av bv)), .unset, .unset, .unset, .unset, .unset, .unset] [(.int cv), (.int ((own_st av bv) + (1 : Int32)))])) _
      refine X0.ldcInt hx hown (mvT hZ (wT hw 0 rfl)) (g := (mkF m 36 #[.val (.int av), .val (.int bv), .val (.int cv), .val (.int fv), .val (.int (own_len av)), .val (.int (0 : Int32)), .val (.int (own_st av bv)), .unset, .unset, .unset, .unset, .unset, .unset] [(.int cv), (.int ((own_st av bv) + (1 : Int32)))])) rfl (hb hby at_36) _ ?_
      show Steps p.tables e below (s₁.setTop (mkF m 38 #[.val (.int av), .val (.int bv), .val (.int cv), .val (.int fv), .val (.int (own_len av)), .val (.int (0 : Int32)), .val (.int (own_st av bv)), .unset, .unset, .unset, .unset, .unset, .unset] [(.int (2147483647 : Int32)), (.int cv), (.int ((own_st av bv) + (1 : Int32)))])) _
      refine XS.iand X0.here hx rfl (hb hby at_38) rfl ?_
      show Steps p.tables e below (s₁.setTop (mkF m 39 #[.val (.int av), .val (.int bv), .val (.int cv), .val (.int fv), .val (.int (own_len av)), .val (.int (0 : Int32)), .val (.int (own_st av bv)), .unset, .unset, .unset, .unset, .unset, .unset] [(.int (cv &&& (2147483647 : Int32))), (.int ((own_st av bv) + (1 : Int32)))])) _
      refine XS.iload X0.here hx rfl (hb hby at_39) rfl ?_
      show Steps p.tables e below (s₁.setTop (mkF m 41 #[.val (.int av), .val (.int bv), .val (.int cv), .val (.int fv), .val (.int (own_len av)), .val (.int (0 : Int32)), .val (.int (own_st av bv)), .unset, .unset, .unset, .unset, .unset, .unset] [(.int (own_len av)), (.int (cv &&& (2147483647 : Int32))), (.int ((own_st av bv) + (1 : Int32)))])) _
      refine XS.iload X0.here hx rfl (hb hby at_41) rfl ?_
      show Steps p.tables e below (s₁.setTop (mkF m 43 #[.val (.int av), .val (.int bv), .val (.int cv), .val (.int fv), .val (.int (own_len av)), .val (.int (0 : Int32)), .val (.int (own_st av bv)), .unset, .unset, .unset, .unset, .unset, .unset] [(.int (own_st av bv)), (.int (own_len av)), (.int (cv &&& (2147483647 : Int32))), (.int ((own_st av bv) + (1 : Int32)))])) _
      refine XS.isub X0.here hx rfl (hb hby at_43) rfl ?_
      show Steps p.tables e below (s₁.setTop (mkF m 44 #[.val (.int av), .val (.int bv), .val (.int cv), .val (.int fv), .val (.int (own_len av)), .val (.int (0 : Int32)), .val (.int (own_st av bv)), .unset, .unset, .unset, .unset, .unset, .unset] [(.int ((own_len av) - (own_st av bv))), (.int (cv &&& (2147483647 : Int32))), (.int ((own_st av bv) + (1 : Int32)))])) _
      refine iremM X0 hx (g := (mkF m 44 #[.val (.int av), .val (.int bv), .val (.int cv), .val (.int fv), .val (.int (own_len av)), .val (.int (0 : Int32)), .val (.int (own_st av bv)), .unset, .unset, .unset, .unset, .unset, .unset] [(.int ((own_len av) - (own_st av bv))), (.int (cv &&& (2147483647 : Int32))), (.int ((own_st av bv) + (1 : Int32)))])) rfl (hb hby at_44) rfl (own_ls_ne av bv) ?_
      show Steps p.tables e below (s₁.setTop (mkF m 45 #[.val (.int av), .val (.int bv), .val (.int cv), .val (.int fv), .val (.int (own_len av)), .val (.int (0 : Int32)), .val (.int (own_st av bv)), .unset, .unset, .unset, .unset, .unset, .unset] [(.int ((cv &&& (2147483647 : Int32)) % ((own_len av) - (own_st av bv)))), (.int ((own_st av bv) + (1 : Int32)))])) _
      refine XS.iadd X0.here hx rfl (hb hby at_45) rfl ?_
      show Steps p.tables e below (s₁.setTop (mkF m 46 #[.val (.int av), .val (.int bv), .val (.int cv), .val (.int fv), .val (.int (own_len av)), .val (.int (0 : Int32)), .val (.int (own_st av bv)), .unset, .unset, .unset, .unset, .unset, .unset] [(.int (((own_st av bv) + (1 : Int32)) + ((cv &&& (2147483647 : Int32)) % ((own_len av) - (own_st av bv)))))])) _
      refine XS.istore X0.here hx rfl (hb hby at_46) rfl (l' := #[.val (.int av), .val (.int bv), .val (.int cv), .val (.int fv), .val (.int (own_len av)), .val (.int (0 : Int32)), .val (.int (own_st av bv)), .val (.int (((own_st av bv) + (1 : Int32)) + ((cv &&& (2147483647 : Int32)) % ((own_len av) - (own_st av bv))))), .unset, .unset, .unset, .unset, .unset]) rfl ?_
      show Steps p.tables e below (s₁.setTop (mkF m 48 #[.val (.int av), .val (.int bv), .val (.int cv), .val (.int fv), .val (.int (own_len av)), .val (.int (0 : Int32)), .val (.int (own_st av bv)), .val (.int (((own_st av bv) + (1 : Int32)) + ((cv &&& (2147483647 : Int32)) % ((own_len av) - (own_st av bv))))), .unset, .unset, .unset, .unset, .unset] [])) _
      exact hh)
    have k7 : own_K p e below (s₁.setTop (mkF m 48 #[.val (.int av), .val (.int bv), .val (.int cv), .val (.int fv), .val (.int (own_len av)), .val (.int (0 : Int32)), .val (.int (own_st av bv)), .val (.int (own_en av bv cv)), .unset, .unset, .unset, .unset, .unset] [])) (s₁.setTop (entryFrame m #[(.int av), (.int bv), (.int cv), (.int fv)] maxLocals)) := k6
    obtain ⟨T480, h481, X482, e483, E484, A485, D486, U488, st487⟩ := newO X0 hx hZ hown (wT hw 1 rfl) (wT hw 2 rfl) (wT hw 3 rfl) e0 (g := (mkF m 48 #[.val (.int av), .val (.int bv), .val (.int cv), .val (.int fv), .val (.int (own_len av)), .val (.int (0 : Int32)), .val (.int (own_st av bv)), .val (.int (own_en av bv cv)), .unset, .unset, .unset, .unset, .unset] [])) rfl (hb hby at_48) (by decide) (by decide)
    obtain ⟨a489, g490⟩ : ∃ z, z = h0.size := ⟨_, rfl⟩
    rw [← g490] at A485 D486 U488 st487
    have G491 : n0 ≤ a489 := Nat.le_trans Z0 (Nat.le_of_eq g490.symm)
    have hk492 := Nat.le_trans hk0 (show h0.size ≤ h481.size from E484.1)
    have Z493 : n0 ≤ h481.size := Nat.le_trans Z0 E484.1
    have F494 : Fld Z h481 a489 "com/example/ample_gap/amplegap/simulation/Road" "length" "D" (.double (0 : UInt64)) := D486 (Or.inr (wT hw 38 rfl)) (ty := .double) (by decide)
    have F495 : Fld Z h481 a489 "com/example/ample_gap/amplegap/simulation/Road" "lanes" "I" (.int (0 : Int32)) := D486 (Or.inr (wT hw 40 rfl)) (ty := .int) (by decide)
    have F496 : Fld Z h481 a489 "com/example/ample_gap/amplegap/simulation/Road" "ring" "Z" (.int (0 : Int32)) := D486 (Or.inr (wT hw 42 rfl)) (ty := .boolean) (by decide)
    have F497 : Fld Z h481 a489 "com/example/ample_gap/amplegap/simulation/Road" "onRamp" "Lcom/example/ample_gap/amplegap/simulation/OnRamp;" .null := D486 (Or.inr (wT hw 44 rfl)) (ty := .object "com/example/ample_gap/amplegap/simulation/OnRamp") (by decide)
    have k8 : own_K p e below (T480.setTop (mkF m 51 #[.val (.int av), .val (.int bv), .val (.int cv), .val (.int fv), .val (.int (own_len av)), .val (.int (0 : Int32)), .val (.int (own_st av bv)), .val (.int (own_en av bv cv)), .unset, .unset, .unset, .unset, .unset] [(.ref a489)])) (s₁.setTop (entryFrame m #[(.int av), (.int bv), (.int cv), (.int fv)] maxLocals)) := fun t hh => k7 t (st487 t hh)
    have k9 : own_K p e below (T480.setTop (mkF m 55 #[.val (.int av), .val (.int bv), .val (.int cv), .val (.int fv), .val (.int (own_len av)), .val (.int (0 : Int32)), .val (.int (own_st av bv)), .val (.int (own_en av bv cv)), .unset, .unset, .unset, .unset, .unset] [(.double (FP.i2d (own_len av))), (.ref a489), (.ref a489)])) (s₁.setTop (entryFrame m #[(.int av), (.int bv), (.int cv), (.int fv)] maxLocals)) := fun t hh => k8 t (by
      refine XS.dup X482.here hx rfl (hb hby at_51) rfl rfl ?_
      show Steps p.tables e below (T480.setTop (mkF m 52 #[.val (.int av), .val (.int bv), .val (.int cv), .val (.int fv), .val (.int (own_len av)), .val (.int (0 : Int32)), .val (.int (own_st av bv)), .val (.int (own_en av bv cv)), .unset, .unset, .unset, .unset, .unset] [(.ref a489), (.ref a489)])) _
      refine XS.iload X482.here hx rfl (hb hby at_52) rfl ?_
      show Steps p.tables e below (T480.setTop (mkF m 54 #[.val (.int av), .val (.int bv), .val (.int cv), .val (.int fv), .val (.int (own_len av)), .val (.int (0 : Int32)), .val (.int (own_st av bv)), .val (.int (own_en av bv cv)), .unset, .unset, .unset, .unset, .unset] [(.int (own_len av)), (.ref a489), (.ref a489)])) _
      refine XS.i2dS X482.here hx rfl (hb hby at_54) rfl rfl ?_
      show Steps p.tables e below (T480.setTop (mkF m 55 #[.val (.int av), .val (.int bv), .val (.int cv), .val (.int fv), .val (.int (own_len av)), .val (.int (0 : Int32)), .val (.int (own_st av bv)), .val (.int (own_en av bv cv)), .unset, .unset, .unset, .unset, .unset] [(.double (FP.i2d (own_len av))), (.ref a489), (.ref a489)])) _
      exact hh)
    obtain ⟨_, _, ⟨T498, L499, k_500, n_501⟩, -, X502, hSc509, hgr510, ⟨Lc503, hQ504, l_505, y_506, z_507⟩, st508⟩ := X482.specialBackS hx (y := (⟨"com/example/ample_gap/amplegap/simulation/Road", "<init>", "(D)V"⟩ : MethodName)) rfl hown (mvT hZ (wT hw 4 rfl)) (mvT hZ (wT hw 5 rfl)) (mvT hZ (wT hw 6 rfl)) (by decide) (backOfS (W := 1) (rmC1 l Z a0 hw [] a489 (FP.i2d (own_len av)) h481 n0 Z493 A485 G491 F494 F495 F496 F497 (own_no _) (own_fin_le (i2d_fin _)) (own_pos (own_len_rng av).1)) hZ (wT hw 6 rfl) (wT hw 3 rfl) (by decide) (by decide)) (g := (mkF m 55 #[.val (.int av), .val (.int bv), .val (.int cv), .val (.int fv), .val (.int (own_len av)), .val (.int (0 : Int32)), .val (.int (own_st av bv)), .val (.int (own_en av bv cv)), .unset, .unset, .unset, .unset, .unset] [(.double (FP.i2d (own_len av))), (.ref a489), (.ref a489)])) rfl (by rw [hml]; rfl) (Steps.refl _) (a := a489) (argsL := [(.double (FP.i2d (own_len av)))]) (rest := [(.ref a489)]) (lenOf own_h11 rfl) rfl (by show 2 * 0 + _ ≤ _; exact Nat.le_of_eq rfl) (hb hby at_55) (fun _ _ => ⟨rfl, e483, (by decide : 1 + 2 ≤ _), (by decide : 4 + 48 ≤ _)⟩)
    dsimp only [Pt.U, Pt.locs, Pt.cells, Pt.slots] at X502 hSc509 hgr510 l_505 y_506 z_507 st508 hQ504
    subst l_505 y_506 z_507
    obtain ⟨X512, hS513, hZ514, hown515⟩ := rebS hS0 (by rw [e483]; exact hk492) X502 hSc509 hgr510 hZ hown
    obtain ⟨rfl, N516, K517, E518, F519, F520, F521, F522⟩ := hQ504
    have N523 := Fr.app N0 N516
    have F524 := A485.keep K517
    have Z525 : n0 ≤ T498.heap.size := Nat.le_trans Z493 K517.1
    have hk526 := Nat.le_trans hk492 (show h481.size ≤ T498.heap.size from K517.1)
    have e527 : T498.heap = T498.heap := rfl
    have k10 : own_K p e below (T498.setTop (mkF m 58 #[.val (.int av), .val (.int bv), .val (.int cv), .val (.int fv), .val (.int (own_len av)), .val (.int (0 : Int32)), .val (.int (own_st av bv)), .val (.int (own_en av bv cv)), .unset, .unset, .unset, .unset, .unset] [(.ref a489)])) (s₁.setTop (entryFrame m #[(.int av), (.int bv), (.int cv), (.int fv)] maxLocals)) := fun t hh => k9 t (st508.trans hh)
    have k11 : own_K p e below (T498.setTop (mkF m 67 #[.val (.int av), .val (.int bv), .val (.int cv), .val (.int fv), .val (.int (own_len av)), .val (.int (0 : Int32)), .val (.int (own_st av bv)), .val (.int (own_en av bv cv)), .val (.ref a489), .unset, .unset, .unset, .unset] [(.ref a489)])) (s₁.setTop (entryFrame m #[(.int av), (.int bv), (.int cv), (.int fv)] maxLocals)) := fun t hh => k10 t (by
      refine XS.astore X512.here hx rfl (hb hby at_58) rfl rfl (l' := #[.val (.int av), .val (.int bv), .val (.int cv), .val (.int fv), .val (.int (own_len av)), .val (.int (0 : Int32)), .val (.int (own_st av bv)), .val (.int (own_en av bv cv)), .val (.ref a489), .unset, .unset, .unset, .unset]) rfl ?_
      show Steps p.tables e below (T498.setTop (mkF m 60 #[.val (.int av), .val (.int bv), .val (.int cv), .val (.int fv), .val (.int (own_len av)), .val (.int (0 : Int32)), .val (.int (own_st av bv)), .val (.int (own_en av bv cv)), .val (.ref a489), .unset, .unset, .unset, .unset] [])) _
      refine XS.iload X512.here hx rfl (hb hby at_60) rfl ?_
      show Steps p.tables e below (T498.setTop (mkF m 62 #[.val (.int av), .val (.int bv), .val (.int cv), .val (.int fv), .val (.int (own_len av)), .val (.int (0 : Int32)), .val (.int (own_st av bv)), .val (.int (own_en av bv cv)), .val (.ref a489), .unset, .unset, .unset, .unset] [(.int (0 : Int32))])) _
      refine XS.ifNo X512.here hx rfl (hb hby at_62) rfl (by decide) ?_
      show Steps p.tables e below (T498.setTop (mkF m 65 #[.val (.int av), .val (.int bv), .val (.int cv), .val (.int fv), .val (.int (own_len av)), .val (.int (0 : Int32)), .val (.int (own_st av bv)), .val (.int (own_en av bv cv)), .val (.ref a489), .unset, .unset, .unset, .unset] [])) _
      refine XS.aload X512.here hx rfl (hb hby at_65) rfl rfl ?_
      show Steps p.tables e below (T498.setTop (mkF m 67 #[.val (.int av), .val (.int bv), .val (.int cv), .val (.int fv), .val (.int (own_len av)), .val (.int (0 : Int32)), .val (.int (own_st av bv)), .val (.int (own_en av bv cv)), .val (.ref a489), .unset, .unset, .unset, .unset] [(.ref a489)])) _
      exact hh)
    obtain ⟨cq539, kq540, qa541, qb542, qc543⟩ := isOf hZ514 e527 E518
    obtain ⟨_, _, ⟨T528, L529, k_530, n_531⟩, -, X532, ⟨Lc533, hQ534, l_535, y_536, z_537⟩, st538⟩ := X512.virtualBack hx (y := (⟨"com/example/ample_gap/amplegap/simulation/Road", "lowestLane", "()I"⟩ : MethodName)) (z := (⟨"com/example/ample_gap/amplegap/simulation/Road", "lowestLane", "()I"⟩ : MethodName)) hown515 (mvT hZ514 (wT hw 81 rfl)) (mvT hZ514 (wT hw 82 rfl)) (notFace_of_selects (args := #[]) (mvT hZ514 (wT hw 84 rfl))) (mvT hZ514 (wT hw 84 rfl)) (mvT hZ514 (wT hw 83 rfl)) (by decide) (backOf (W := 0) (rmL1 l Z a0 hw [] a489 T498.heap n0 Z525 F522) hZ514 (wT hw 85 rfl) (wT hw 3 rfl) (by decide) (by decide)) qa541 qc543 (g := (mkF m 67 #[.val (.int av), .val (.int bv), .val (.int cv), .val (.int fv), .val (.int (own_len av)), .val (.int (0 : Int32)), .val (.int (own_st av bv)), .val (.int (own_en av bv cv)), .val (.ref a489), .unset, .unset, .unset, .unset] [(.ref a489)])) rfl (by rw [hml]; rfl) (Steps.refl _) (argsL := []) (rest := []) (lenOf own_h22 rfl) rfl (by show 2 * 0 + _ ≤ _; exact Nat.le_of_eq rfl) (hb hby at_67) (fun _ _ => ⟨rfl, e527, (by decide : 3 + 0 ≤ _), (by decide : 52 + 0 ≤ _)⟩)
    dsimp only [Pt.U, Pt.locs, Pt.cells, Pt.slots] at X532 l_535 y_536 z_537 st538 hQ534
    subst l_535 y_536 z_537
    obtain ⟨rfl, N544, e545⟩ := hQ534
    have N546 := Fr.app N523 N544
    have k12 : own_K p e below (T528.setTop (mkF m 70 #[.val (.int av), .val (.int bv), .val (.int cv), .val (.int fv), .val (.int (own_len av)), .val (.int (0 : Int32)), .val (.int (own_st av bv)), .val (.int (own_en av bv cv)), .val (.ref a489), .unset, .unset, .unset, .unset] [(.int (1 : Int32))])) (s₁.setTop (entryFrame m #[(.int av), (.int bv), (.int cv), (.int fv)] maxLocals)) := fun t hh => k11 t (st538.trans hh)
    have k13 : own_K p e below (T528.setTop (mkF m 79 #[.val (.int av), .val (.int bv), .val (.int cv), .val (.int fv), .val (.int (own_len av)), .val (.int (0 : Int32)), .val (.int (own_st av bv)), .val (.int (own_en av bv cv)), .val (.ref a489), .unset, .unset, .unset, .unset] [(.int (1 : Int32))])) (s₁.setTop (entryFrame m #[(.int av), (.int bv), (.int cv), (.int fv)] maxLocals)) := fun t hh => k12 t (by
      refine XS.iconst X532.here hx rfl (hb hby at_70) ?_
      show Steps p.tables e below (T528.setTop (mkF m 71 #[.val (.int av), .val (.int bv), .val (.int cv), .val (.int fv), .val (.int (own_len av)), .val (.int (0 : Int32)), .val (.int (own_st av bv)), .val (.int (own_en av bv cv)), .val (.ref a489), .unset, .unset, .unset, .unset] [(.int (1 : Int32)), (.int (1 : Int32))])) _
      refine XS.icmpNo X532.here hx rfl (hb hby at_71) rfl (by decide) ?_
      show Steps p.tables e below (T528.setTop (mkF m 74 #[.val (.int av), .val (.int bv), .val (.int cv), .val (.int fv), .val (.int (own_len av)), .val (.int (0 : Int32)), .val (.int (own_st av bv)), .val (.int (own_en av bv cv)), .val (.ref a489), .unset, .unset, .unset, .unset] [])) _
      refine XS.iconst X532.here hx rfl (hb hby at_74) ?_
      show Steps p.tables e below (T528.setTop (mkF m 75 #[.val (.int av), .val (.int bv), .val (.int cv), .val (.int fv), .val (.int (own_len av)), .val (.int (0 : Int32)), .val (.int (own_st av bv)), .val (.int (own_en av bv cv)), .val (.ref a489), .unset, .unset, .unset, .unset] [(.int (1 : Int32))])) _
      refine XS.goto X532.here hx rfl (pc0 := 75) (pc' := 79) rfl (hb hby at_75) (by decide) (by decide) ?_
      show Steps p.tables e below (T528.setTop (mkF m 79 #[.val (.int av), .val (.int bv), .val (.int cv), .val (.int fv), .val (.int (own_len av)), .val (.int (0 : Int32)), .val (.int (own_st av bv)), .val (.int (own_en av bv cv)), .val (.ref a489), .unset, .unset, .unset, .unset] [(.int (1 : Int32))])) _
      exact hh)
    obtain ⟨fs, hr, hrun, hended, hEnd⟩ := X532.leaveW hS513 (by rw [e545]; exact (Nat.le_refl T498.heap.size)) (v := some (.int (1 : Int32))) (fun h => by rw [Bd.returns] at h; cases h)
    refine ⟨_, _, k13 _ (retN X532 hx (t := .boolean) Bd.returns (by simp) (hb hby at_79) hr), hrun, hended, _, _, rfl, ?_, hEnd.1, hEnd.2.1, hEnd.2.2.1, hEnd.2.2.2.mono (by decide) (by decide)⟩
    show QL h0 n0 _ T528.heap _
    rw [e545]
    exact ⟨rfl, N546⟩
  ·
    have k14 : own_K p e below (s₁.setTop (mkF m 31 #[.val (.int av), .val (.int bv), .val (.int cv), .val (.int fv), .val (.int (own_len av)), .val (.int (1 : Int32)), .val (.int ((bv &&& (2147483647 : Int32)) % (own_len av))), .unset, .unset, .unset, .unset, .unset, .unset] [])) (s₁.setTop (entryFrame m #[(.int av), (.int bv), (.int cv), (.int fv)] maxLocals)) := fun t hh => k3 t (by
      refine XS.ifNo X0.here hx rfl (hb hby at_12) rfl (own_ifF_eq c12) ?_
      show Steps p.tables e below (s₁.setTop (mkF m 15 #[.val (.int av), .val (.int bv), .val (.int cv), .val (.int fv), .val (.int (own_len av)), .unset, .unset, .unset, .unset, .unset, .unset, .unset, .unset] [])) _
      refine XS.iconst X0.here hx rfl (hb hby at_15) ?_
      show Steps p.tables e below (s₁.setTop (mkF m 16 #[.val (.int av), .val (.int bv), .val (.int cv), .val (.int fv), .val (.int (own_len av)), .unset, .unset, .unset, .unset, .unset, .unset, .unset, .unset] [(.int (1 : Int32))])) _
      refine XS.goto X0.here hx rfl (pc0 := 16) (pc' := 20) rfl (hb hby at_16) (by decide) (by decide) ?_
      show Steps p.tables e below (s₁.setTop (mkF m 20 #[.val (.int av), .val (.int bv), .val (.int cv), .val (.int fv), .val (.int (own_len av)), .unset, .unset, .unset, .unset, .unset, .unset, .unset, .unset] [(.int (1 : Int32))])) _
      refine XS.istore X0.here hx rfl (hb hby at_20) rfl (l' := #[.val (.int av), .val (.int bv), .val (.int cv), .val (.int fv), .val (.int (own_len av)), .val (.int (1 : Int32)), .unset, .unset, .unset, .unset, .unset, .unset, .unset]) rfl ?_
      show Steps p.tables e below (s₁.setTop (mkF m 22 #[.val (.int av), .val (.int bv), .val (.int cv), .val (.int fv), .val (.int (own_len av)), .val (.int (1 : Int32)), .unset, .unset, .unset, .unset, .unset, .unset, .unset] [])) _
      refine XS.iloadN X0.here hx rfl (hb hby at_22) rfl ?_
      show Steps p.tables e below (s₁.setTop (mkF m 23 #[.val (.int av), .val (.int bv), .val (.int cv), .val (.int fv), .val (.int (own_len av)), .val (.int (1 : Int32)), .unset, .unset, .unset, .unset, .unset, .unset, .unset] [(.int bv)])) _
      refine X0.ldcInt hx hown (mvT hZ (wT hw 0 rfl)) (g := (mkF m 23 #[.val (.int av), .val (.int bv), .val (.int cv), .val (.int fv), .val (.int (own_len av)), .val (.int (1 : Int32)), .unset, .unset, .unset, .unset, .unset, .unset, .unset] [(.int bv)])) rfl (hb hby at_23) _ ?_
      show Steps p.tables e below (s₁.setTop (mkF m 25 #[.val (.int av), .val (.int bv), .val (.int cv), .val (.int fv), .val (.int (own_len av)), .val (.int (1 : Int32)), .unset, .unset, .unset, .unset, .unset, .unset, .unset] [(.int (2147483647 : Int32)), (.int bv)])) _
      refine XS.iand X0.here hx rfl (hb hby at_25) rfl ?_
      show Steps p.tables e below (s₁.setTop (mkF m 26 #[.val (.int av), .val (.int bv), .val (.int cv), .val (.int fv), .val (.int (own_len av)), .val (.int (1 : Int32)), .unset, .unset, .unset, .unset, .unset, .unset, .unset] [(.int (bv &&& (2147483647 : Int32)))])) _
      refine XS.iload X0.here hx rfl (hb hby at_26) rfl ?_
      show Steps p.tables e below (s₁.setTop (mkF m 28 #[.val (.int av), .val (.int bv), .val (.int cv), .val (.int fv), .val (.int (own_len av)), .val (.int (1 : Int32)), .unset, .unset, .unset, .unset, .unset, .unset, .unset] [(.int (own_len av)), (.int (bv &&& (2147483647 : Int32)))])) _
      refine iremM X0 hx (g := (mkF m 28 #[.val (.int av), .val (.int bv), .val (.int cv), .val (.int fv), .val (.int (own_len av)), .val (.int (1 : Int32)), .unset, .unset, .unset, .unset, .unset, .unset, .unset] [(.int (own_len av)), (.int (bv &&& (2147483647 : Int32)))])) rfl (hb hby at_28) rfl (own_len_ne av) ?_
      show Steps p.tables e below (s₁.setTop (mkF m 29 #[.val (.int av), .val (.int bv), .val (.int cv), .val (.int fv), .val (.int (own_len av)), .val (.int (1 : Int32)), .unset, .unset, .unset, .unset, .unset, .unset, .unset] [(.int ((bv &&& (2147483647 : Int32)) % (own_len av)))])) _
      refine XS.istore X0.here hx rfl (hb hby at_29) rfl (l' := #[.val (.int av), .val (.int bv), .val (.int cv), .val (.int fv), .val (.int (own_len av)), .val (.int (1 : Int32)), .val (.int ((bv &&& (2147483647 : Int32)) % (own_len av))), .unset, .unset, .unset, .unset, .unset, .unset]) rfl ?_
      show Steps p.tables e below (s₁.setTop (mkF m 31 #[.val (.int av), .val (.int bv), .val (.int cv), .val (.int fv), .val (.int (own_len av)), .val (.int (1 : Int32)), .val (.int ((bv &&& (2147483647 : Int32)) % (own_len av))), .unset, .unset, .unset, .unset, .unset, .unset] [])) _
      exact hh)
    have k15 : own_K p e below (s₁.setTop (mkF m 31 #[.val (.int av), .val (.int bv), .val (.int cv), .val (.int fv), .val (.int (own_len av)), .val (.int (1 : Int32)), .val (.int (own_st av bv)), .unset, .unset, .unset, .unset, .unset, .unset] [])) (s₁.setTop (entryFrame m #[(.int av), (.int bv), (.int cv), (.int fv)] maxLocals)) := k14
    have k16 : own_K p e below (s₁.setTop (mkF m 48 #[.val (.int av), .val (.int bv), .val (.int cv), .val (.int fv), .val (.int (own_len av)), .val (.int (1 : Int32)), .val (.int (own_st av bv)), .val (.int (((own_st av bv) + (1 : Int32)) + ((cv &&& (2147483647 : Int32)) % ((own_len av) - (own_st av bv))))), .unset, .unset, .unset, .unset, .unset] [])) (s₁.setTop (entryFrame m #[(.int av), (.int bv), (.int cv), (.int fv)] maxLocals)) := fun t hh => k15 t (by
      refine XS.iload X0.here hx rfl (hb hby at_31) rfl ?_
      show Steps p.tables e below (s₁.setTop (mkF m 33 #[.val (.int av), .val (.int bv), .val (.int cv), .val (.int fv), .val (.int (own_len av)), .val (.int (1 : Int32)), .val (.int (own_st av bv)), .unset, .unset, .unset, .unset, .unset, .unset] [(.int (own_st av bv))])) _
      refine XS.iconst X0.here hx rfl (hb hby at_33) ?_
      show Steps p.tables e below (s₁.setTop (mkF m 34 #[.val (.int av), .val (.int bv), .val (.int cv), .val (.int fv), .val (.int (own_len av)), .val (.int (1 : Int32)), .val (.int (own_st av bv)), .unset, .unset, .unset, .unset, .unset, .unset] [(.int (1 : Int32)), (.int (own_st av bv))])) _
      refine XS.iadd X0.here hx rfl (hb hby at_34) rfl ?_
      show Steps p.tables e below (s₁.setTop (mkF m 35 #[.val (.int av), .val (.int bv), .val (.int cv), .val (.int fv), .val (.int (own_len av)), .val (.int (1 : Int32)), .val (.int (own_st av bv)), .unset, .unset, .unset, .unset, .unset, .unset] [(.int ((own_st av bv) + (1 : Int32)))])) _
      refine XS.iloadN X0.here hx rfl (hb hby at_35) rfl ?_
      show Steps p.tables e below (s₁.setTop (mkF m 36 #[.val (.int av), .val (.int bv), .val (.int cv), .val (.int fv), .val (.int (own_len av)), .val (.int (1 : Int32)), .val (.int (own_st av bv)), .unset, .unset, .unset, .unset, .unset, .unset] [(.int cv), (.int ((own_st av bv) + (1 : Int32)))])) _
      refine X0.ldcInt hx hown (mvT hZ (wT hw 0 rfl)) (g := (mkF m 36 #[.val (.int av), .val (.int bv), .val (.int cv), .val (.int fv), .val (.int (own_len av)), .val (.int (1 : Int32)), .val (.int (own_st av bv)), .unset, .unset, .unset, .unset, .unset, .unset] [(.int cv), (.int ((own_st av bv) + (1 : Int32)))])) rfl (hb hby at_36) _ ?_
      show Steps p.tables e below (s₁.setTop (mkF m 38 #[.val (.int av), .val (.int bv), .val (.int cv), .val (.int fv), .val (.int (own_len av)), .val (.int (1 : Int32)), .val (.int (own_st av bv)), .unset, .unset, .unset, .unset, .unset, .unset] [(.int (2147483647 : Int32)), (.int cv), (.int ((own_st av bv) + (1 : Int32)))])) _
      refine XS.iand X0.here hx rfl (hb hby at_38) rfl ?_
      show Steps p.tables e below (s₁.setTop (mkF m 39 #[.val (.int av), .val (.int bv), .val (.int cv), .val (.int fv), .val (.int (own_len av)), .val (.int (1 : Int32)), .val (.int (own_st av bv)), .unset, .unset, .unset, .unset, .unset, .unset] [(.int (cv &&& (2147483647 : Int32))), (.int ((own_st av bv) + (1 : Int32)))])) _
      refine XS.iload X0.here hx rfl (hb hby at_39) rfl ?_
      show Steps p.tables e below (s₁.setTop (mkF m 41 #[.val (.int av), .val (.int bv), .val (.int cv), .val (.int fv), .val (.int (own_len av)), .val (.int (1 : Int32)), .val (.int (own_st av bv)), .unset, .unset, .unset, .unset, .unset, .unset] [(.int (own_len av)), (.int (cv &&& (2147483647 : Int32))), (.int ((own_st av bv) + (1 : Int32)))])) _
      refine XS.iload X0.here hx rfl (hb hby at_41) rfl ?_
      show Steps p.tables e below (s₁.setTop (mkF m 43 #[.val (.int av), .val (.int bv), .val (.int cv), .val (.int fv), .val (.int (own_len av)), .val (.int (1 : Int32)), .val (.int (own_st av bv)), .unset, .unset, .unset, .unset, .unset, .unset] [(.int (own_st av bv)), (.int (own_len av)), (.int (cv &&& (2147483647 : Int32))), (.int ((own_st av bv) + (1 : Int32)))])) _
      refine XS.isub X0.here hx rfl (hb hby at_43) rfl ?_
      show Steps p.tables e below (s₁.setTop (mkF m 44 #[.val (.int av), .val (.int bv), .val (.int cv), .val (.int fv), .val (.int (own_len av)), .val (.int (1 : Int32)), .val (.int (own_st av bv)), .unset, .unset, .unset, .unset, .unset, .unset] [(.int ((own_len av) - (own_st av bv))), (.int (cv &&& (2147483647 : Int32))), (.int ((own_st av bv) + (1 : Int32)))])) _
      refine iremM X0 hx (g := (mkF m 44 #[.val (.int av), .val (.int bv), .val (.int cv), .val (.int fv), .val (.int (own_len av)), .val (.int (1 : Int32)), .val (.int (own_st av bv)), .unset, .unset, .unset, .unset, .unset, .unset] [(.int ((own_len av) - (own_st av bv))), (.int (cv &&& (2147483647 : Int32))), (.int ((own_st av bv) + (1 : Int32)))])) rfl (hb hby at_44) rfl (own_ls_ne av bv) ?_
      show Steps p.tables e below (s₁.setTop (mkF m 45 #[.val (.int av), .val (.int bv), .val (.int cv), .val (.int fv), .val (.int (own_len av)), .val (.int (1 : Int32)), .val (.int (own_st av bv)), .unset, .unset, .unset, .unset, .unset, .unset] [(.int ((cv &&& (2147483647 : Int32)) % ((own_len av) - (own_st av bv)))), (.int ((own_st av bv) + (1 : Int32)))])) _
      refine XS.iadd X0.here hx rfl (hb hby at_45) rfl ?_
      show Steps p.tables e below (s₁.setTop (mkF m 46 #[.val (.int av), .val (.int bv), .val (.int cv), .val (.int fv), .val (.int (own_len av)), .val (.int (1 : Int32)), .val (.int (own_st av bv)), .unset, .unset, .unset, .unset, .unset, .unset] [(.int (((own_st av bv) + (1 : Int32)) + ((cv &&& (2147483647 : Int32)) % ((own_len av) - (own_st av bv)))))])) _
      refine XS.istore X0.here hx rfl (hb hby at_46) rfl (l' := #[.val (.int av), .val (.int bv), .val (.int cv), .val (.int fv), .val (.int (own_len av)), .val (.int (1 : Int32)), .val (.int (own_st av bv)), .val (.int (((own_st av bv) + (1 : Int32)) + ((cv &&& (2147483647 : Int32)) % ((own_len av) - (own_st av bv))))), .unset, .unset, .unset, .unset, .unset]) rfl ?_
      show Steps p.tables e below (s₁.setTop (mkF m 48 #[.val (.int av), .val (.int bv), .val (.int cv), .val (.int fv), .val (.int (own_len av)), .val (.int (1 : Int32)), .val (.int (own_st av bv)), .val (.int (((own_st av bv) + (1 : Int32)) + ((cv &&& (2147483647 : Int32)) % ((own_len av) - (own_st av bv))))), .unset, .unset, .unset, .unset, .unset] [])) _
      exact hh)
    have k17 : own_K p e below (s₁.setTop (mkF m 48 #[.val (.int av), .val (.int bv), .val (.int cv), .val (.int fv), .val (.int (own_len av)), .val (.int (1 : Int32)), .val (.int (own_st av bv)), .val (.int (own_en av bv cv)), .unset, .unset, .unset, .unset, .unset] [])) (s₁.setTop (entryFrame m #[(.int av), (.int bv), (.int cv), (.int fv)] maxLocals)) := k16
    obtain ⟨T547, h548, X549, e550, E551, A552, D553, U555, st554⟩ := newO X0 hx hZ hown (wT hw 1 rfl) (wT hw 2 rfl) (wT hw 3 rfl) e0 (g := (mkF m 48 #[.val (.int av), .val (.int bv), .val (.int cv), .val (.int fv), .val (.int (own_len av)), .val (.int (1 : Int32)), .val (.int (own_st av bv)), .val (.int (own_en av bv cv)), .unset, .unset, .unset, .unset, .unset] [])) rfl (hb hby at_48) (by decide) (by decide)
    obtain ⟨a556, g557⟩ : ∃ z, z = h0.size := ⟨_, rfl⟩
    rw [← g557] at A552 D553 U555 st554
    have G558 : n0 ≤ a556 := Nat.le_trans Z0 (Nat.le_of_eq g557.symm)
    have hk559 := Nat.le_trans hk0 (show h0.size ≤ h548.size from E551.1)
    have Z560 : n0 ≤ h548.size := Nat.le_trans Z0 E551.1
    have F561 : Fld Z h548 a556 "com/example/ample_gap/amplegap/simulation/Road" "length" "D" (.double (0 : UInt64)) := D553 (Or.inr (wT hw 38 rfl)) (ty := .double) (by decide)
    have F562 : Fld Z h548 a556 "com/example/ample_gap/amplegap/simulation/Road" "lanes" "I" (.int (0 : Int32)) := D553 (Or.inr (wT hw 40 rfl)) (ty := .int) (by decide)
    have F563 : Fld Z h548 a556 "com/example/ample_gap/amplegap/simulation/Road" "ring" "Z" (.int (0 : Int32)) := D553 (Or.inr (wT hw 42 rfl)) (ty := .boolean) (by decide)
    have F564 : Fld Z h548 a556 "com/example/ample_gap/amplegap/simulation/Road" "onRamp" "Lcom/example/ample_gap/amplegap/simulation/OnRamp;" .null := D553 (Or.inr (wT hw 44 rfl)) (ty := .object "com/example/ample_gap/amplegap/simulation/OnRamp") (by decide)
    have k18 : own_K p e below (T547.setTop (mkF m 51 #[.val (.int av), .val (.int bv), .val (.int cv), .val (.int fv), .val (.int (own_len av)), .val (.int (1 : Int32)), .val (.int (own_st av bv)), .val (.int (own_en av bv cv)), .unset, .unset, .unset, .unset, .unset] [(.ref a556)])) (s₁.setTop (entryFrame m #[(.int av), (.int bv), (.int cv), (.int fv)] maxLocals)) := fun t hh => k17 t (st554 t hh)
    have k19 : own_K p e below (T547.setTop (mkF m 55 #[.val (.int av), .val (.int bv), .val (.int cv), .val (.int fv), .val (.int (own_len av)), .val (.int (1 : Int32)), .val (.int (own_st av bv)), .val (.int (own_en av bv cv)), .unset, .unset, .unset, .unset, .unset] [(.double (FP.i2d (own_len av))), (.ref a556), (.ref a556)])) (s₁.setTop (entryFrame m #[(.int av), (.int bv), (.int cv), (.int fv)] maxLocals)) := fun t hh => k18 t (by
      refine XS.dup X549.here hx rfl (hb hby at_51) rfl rfl ?_
      show Steps p.tables e below (T547.setTop (mkF m 52 #[.val (.int av), .val (.int bv), .val (.int cv), .val (.int fv), .val (.int (own_len av)), .val (.int (1 : Int32)), .val (.int (own_st av bv)), .val (.int (own_en av bv cv)), .unset, .unset, .unset, .unset, .unset] [(.ref a556), (.ref a556)])) _
      refine XS.iload X549.here hx rfl (hb hby at_52) rfl ?_
      show Steps p.tables e below (T547.setTop (mkF m 54 #[.val (.int av), .val (.int bv), .val (.int cv), .val (.int fv), .val (.int (own_len av)), .val (.int (1 : Int32)), .val (.int (own_st av bv)), .val (.int (own_en av bv cv)), .unset, .unset, .unset, .unset, .unset] [(.int (own_len av)), (.ref a556), (.ref a556)])) _
      refine XS.i2dS X549.here hx rfl (hb hby at_54) rfl rfl ?_
      show Steps p.tables e below (T547.setTop (mkF m 55 #[.val (.int av), .val (.int bv), .val (.int cv), .val (.int fv), .val (.int (own_len av)), .val (.int (1 : Int32)), .val (.int (own_st av bv)), .val (.int (own_en av bv cv)), .unset, .unset, .unset, .unset, .unset] [(.double (FP.i2d (own_len av))), (.ref a556), (.ref a556)])) _
      exact hh)
    obtain ⟨_, _, ⟨T565, L566, k_567, n_568⟩, -, X569, hSc576, hgr577, ⟨Lc570, hQ571, l_572, y_573, z_574⟩, st575⟩ := X549.specialBackS hx (y := (⟨"com/example/ample_gap/amplegap/simulation/Road", "<init>", "(D)V"⟩ : MethodName)) rfl hown (mvT hZ (wT hw 4 rfl)) (mvT hZ (wT hw 5 rfl)) (mvT hZ (wT hw 6 rfl)) (by decide) (backOfS (W := 1) (rmC1 l Z a0 hw [] a556 (FP.i2d (own_len av)) h548 n0 Z560 A552 G558 F561 F562 F563 F564 (own_no _) (own_fin_le (i2d_fin _)) (own_pos (own_len_rng av).1)) hZ (wT hw 6 rfl) (wT hw 3 rfl) (by decide) (by decide)) (g := (mkF m 55 #[.val (.int av), .val (.int bv), .val (.int cv), .val (.int fv), .val (.int (own_len av)), .val (.int (1 : Int32)), .val (.int (own_st av bv)), .val (.int (own_en av bv cv)), .unset, .unset, .unset, .unset, .unset] [(.double (FP.i2d (own_len av))), (.ref a556), (.ref a556)])) rfl (by rw [hml]; rfl) (Steps.refl _) (a := a556) (argsL := [(.double (FP.i2d (own_len av)))]) (rest := [(.ref a556)]) (lenOf own_h11 rfl) rfl (by show 2 * 0 + _ ≤ _; exact Nat.le_of_eq rfl) (hb hby at_55) (fun _ _ => ⟨rfl, e550, (by decide : 1 + 2 ≤ _), (by decide : 4 + 48 ≤ _)⟩)
    dsimp only [Pt.U, Pt.locs, Pt.cells, Pt.slots] at X569 hSc576 hgr577 l_572 y_573 z_574 st575 hQ571
    subst l_572 y_573 z_574
    obtain ⟨X579, hS580, hZ581, hown582⟩ := rebS hS0 (by rw [e550]; exact hk559) X569 hSc576 hgr577 hZ hown
    obtain ⟨rfl, N583, K584, E585, F586, F587, F588, F589⟩ := hQ571
    have N590 := Fr.app N0 N583
    have F591 := A552.keep K584
    have Z592 : n0 ≤ T565.heap.size := Nat.le_trans Z560 K584.1
    have hk593 := Nat.le_trans hk559 (show h548.size ≤ T565.heap.size from K584.1)
    have e594 : T565.heap = T565.heap := rfl
    have k20 : own_K p e below (T565.setTop (mkF m 58 #[.val (.int av), .val (.int bv), .val (.int cv), .val (.int fv), .val (.int (own_len av)), .val (.int (1 : Int32)), .val (.int (own_st av bv)), .val (.int (own_en av bv cv)), .unset, .unset, .unset, .unset, .unset] [(.ref a556)])) (s₁.setTop (entryFrame m #[(.int av), (.int bv), (.int cv), (.int fv)] maxLocals)) := fun t hh => k19 t (st575.trans hh)
    have k21 : own_K p e below (T565.setTop (mkF m 80 #[.val (.int av), .val (.int bv), .val (.int cv), .val (.int fv), .val (.int (own_len av)), .val (.int (1 : Int32)), .val (.int (own_st av bv)), .val (.int (own_en av bv cv)), .val (.ref a556), .unset, .unset, .unset, .unset] [])) (s₁.setTop (entryFrame m #[(.int av), (.int bv), (.int cv), (.int fv)] maxLocals)) := fun t hh => k20 t (by
      refine XS.astore X579.here hx rfl (hb hby at_58) rfl rfl (l' := #[.val (.int av), .val (.int bv), .val (.int cv), .val (.int fv), .val (.int (own_len av)), .val (.int (1 : Int32)), .val (.int (own_st av bv)), .val (.int (own_en av bv cv)), .val (.ref a556), .unset, .unset, .unset, .unset]) rfl ?_
      show Steps p.tables e below (T565.setTop (mkF m 60 #[.val (.int av), .val (.int bv), .val (.int cv), .val (.int fv), .val (.int (own_len av)), .val (.int (1 : Int32)), .val (.int (own_st av bv)), .val (.int (own_en av bv cv)), .val (.ref a556), .unset, .unset, .unset, .unset] [])) _
      refine XS.iload X579.here hx rfl (hb hby at_60) rfl ?_
      show Steps p.tables e below (T565.setTop (mkF m 62 #[.val (.int av), .val (.int bv), .val (.int cv), .val (.int fv), .val (.int (own_len av)), .val (.int (1 : Int32)), .val (.int (own_st av bv)), .val (.int (own_en av bv cv)), .val (.ref a556), .unset, .unset, .unset, .unset] [(.int (1 : Int32))])) _
      refine XS.ifYes X579.here hx rfl (pc0 := 62) (pc' := 80) rfl (hb hby at_62) rfl (by decide) (by decide) (by decide) ?_
      show Steps p.tables e below (T565.setTop (mkF m 80 #[.val (.int av), .val (.int bv), .val (.int cv), .val (.int fv), .val (.int (own_len av)), .val (.int (1 : Int32)), .val (.int (own_st av bv)), .val (.int (own_en av bv cv)), .val (.ref a556), .unset, .unset, .unset, .unset] [])) _
      exact hh)
    obtain ⟨T595, h596, X597, e598, E599, A600, D601, U603, st602⟩ := newO X579 hx hZ581 hown582 (wT hw 45 rfl) (wT hw 46 rfl) (wT hw 47 rfl) e594 (g := (mkF m 80 #[.val (.int av), .val (.int bv), .val (.int cv), .val (.int fv), .val (.int (own_len av)), .val (.int (1 : Int32)), .val (.int (own_st av bv)), .val (.int (own_en av bv cv)), .val (.ref a556), .unset, .unset, .unset, .unset] [])) rfl (hb hby at_80) (by decide) (by decide)
    obtain ⟨a604, g605⟩ : ∃ z, z = T565.heap.size := ⟨_, rfl⟩
    rw [← g605] at A600 D601 U603 st602
    have G606 : n0 ≤ a604 := Nat.le_trans Z592 (Nat.le_of_eq g605.symm)
    have hk607 := Nat.le_trans (Nat.le_refl T565.heap.size) (show T565.heap.size ≤ h596.size from E599.1)
    have F608 := Exa.ext (h' := h596) E599 E585
    have F609 := Fld.ext (h' := h596) E599 F586
    have F610 := Fld.ext (h' := h596) E599 F587
    have F611 := Fld.ext (h' := h596) E599 F588
    have F612 := Fld.ext (h' := h596) E599 F589
    have Z613 : n0 ≤ h596.size := Nat.le_trans Z592 E599.1
    have F614 : Fld Z h596 a604 "com/example/ample_gap/amplegap/simulation/OnRamp" "start" "D" (.double (0 : UInt64)) := D601 (Or.inr (wT hw 59 rfl)) (ty := .double) (by decide)
    have F615 : Fld Z h596 a604 "com/example/ample_gap/amplegap/simulation/OnRamp" "end" "D" (.double (0 : UInt64)) := D601 (Or.inr (wT hw 61 rfl)) (ty := .double) (by decide)
    have k22 : own_K p e below (T595.setTop (mkF m 83 #[.val (.int av), .val (.int bv), .val (.int cv), .val (.int fv), .val (.int (own_len av)), .val (.int (1 : Int32)), .val (.int (own_st av bv)), .val (.int (own_en av bv cv)), .val (.ref a556), .unset, .unset, .unset, .unset] [(.ref a604)])) (s₁.setTop (entryFrame m #[(.int av), (.int bv), (.int cv), (.int fv)] maxLocals)) := fun t hh => k21 t (st602 t hh)
    have k23 : own_K p e below (T595.setTop (mkF m 90 #[.val (.int av), .val (.int bv), .val (.int cv), .val (.int fv), .val (.int (own_len av)), .val (.int (1 : Int32)), .val (.int (own_st av bv)), .val (.int (own_en av bv cv)), .val (.ref a556), .unset, .unset, .unset, .unset] [(.double (FP.i2d (own_en av bv cv))), (.double (FP.i2d (own_st av bv))), (.ref a604), (.ref a604)])) (s₁.setTop (entryFrame m #[(.int av), (.int bv), (.int cv), (.int fv)] maxLocals)) := fun t hh => k22 t (by
      refine XS.dup X597.here hx rfl (hb hby at_83) rfl rfl ?_
      show Steps p.tables e below (T595.setTop (mkF m 84 #[.val (.int av), .val (.int bv), .val (.int cv), .val (.int fv), .val (.int (own_len av)), .val (.int (1 : Int32)), .val (.int (own_st av bv)), .val (.int (own_en av bv cv)), .val (.ref a556), .unset, .unset, .unset, .unset] [(.ref a604), (.ref a604)])) _
      refine XS.iload X597.here hx rfl (hb hby at_84) rfl ?_
      show Steps p.tables e below (T595.setTop (mkF m 86 #[.val (.int av), .val (.int bv), .val (.int cv), .val (.int fv), .val (.int (own_len av)), .val (.int (1 : Int32)), .val (.int (own_st av bv)), .val (.int (own_en av bv cv)), .val (.ref a556), .unset, .unset, .unset, .unset] [(.int (own_st av bv)), (.ref a604), (.ref a604)])) _
      refine XS.i2dS X597.here hx rfl (hb hby at_86) rfl rfl ?_
      show Steps p.tables e below (T595.setTop (mkF m 87 #[.val (.int av), .val (.int bv), .val (.int cv), .val (.int fv), .val (.int (own_len av)), .val (.int (1 : Int32)), .val (.int (own_st av bv)), .val (.int (own_en av bv cv)), .val (.ref a556), .unset, .unset, .unset, .unset] [(.double (FP.i2d (own_st av bv))), (.ref a604), (.ref a604)])) _
      refine XS.iload X597.here hx rfl (hb hby at_87) rfl ?_
      show Steps p.tables e below (T595.setTop (mkF m 89 #[.val (.int av), .val (.int bv), .val (.int cv), .val (.int fv), .val (.int (own_len av)), .val (.int (1 : Int32)), .val (.int (own_st av bv)), .val (.int (own_en av bv cv)), .val (.ref a556), .unset, .unset, .unset, .unset] [(.int (own_en av bv cv)), (.double (FP.i2d (own_st av bv))), (.ref a604), (.ref a604)])) _
      refine XS.i2dS X597.here hx rfl (hb hby at_89) rfl rfl ?_
      show Steps p.tables e below (T595.setTop (mkF m 90 #[.val (.int av), .val (.int bv), .val (.int cv), .val (.int fv), .val (.int (own_len av)), .val (.int (1 : Int32)), .val (.int (own_st av bv)), .val (.int (own_en av bv cv)), .val (.ref a556), .unset, .unset, .unset, .unset] [(.double (FP.i2d (own_en av bv cv))), (.double (FP.i2d (own_st av bv))), (.ref a604), (.ref a604)])) _
      exact hh)
    obtain ⟨_, _, ⟨T616, L617, k_618, n_619⟩, -, X620, hSc627, hgr628, ⟨Lc621, hQ622, l_623, y_624, z_625⟩, st626⟩ := X597.specialBackS hx (y := (⟨"com/example/ample_gap/amplegap/simulation/OnRamp", "<init>", "(DD)V"⟩ : MethodName)) rfl hown582 (mvT hZ581 (wT hw 48 rfl)) (mvT hZ581 (wT hw 49 rfl)) (mvT hZ581 (wT hw 50 rfl)) (by decide) (backOfS (W := 1) (rmO l Z a0 hw [] a604 (FP.i2d (own_st av bv)) (FP.i2d (own_en av bv cv)) h596 n0 Z613 A600 G606 F614 F615 (own_no _) (own_fin_le (i2d_fin _)) (own_nneg (own_st_rng av bv).1) (own_no _) (own_fin_le (i2d_fin _)) (own_gt (own_en_rng av bv cv).1)) hZ581 (wT hw 50 rfl) (wT hw 47 rfl) (by decide) (by decide)) (g := (mkF m 90 #[.val (.int av), .val (.int bv), .val (.int cv), .val (.int fv), .val (.int (own_len av)), .val (.int (1 : Int32)), .val (.int (own_st av bv)), .val (.int (own_en av bv cv)), .val (.ref a556), .unset, .unset, .unset, .unset] [(.double (FP.i2d (own_en av bv cv))), (.double (FP.i2d (own_st av bv))), (.ref a604), (.ref a604)])) rfl (by rw [hml]; rfl) (Steps.refl _) (a := a604) (argsL := [(.double (FP.i2d (own_st av bv))), (.double (FP.i2d (own_en av bv cv)))]) (rest := [(.ref a604)]) (lenOf own_h17 rfl) rfl (by show 2 * 0 + _ ≤ _; exact Nat.le_of_eq rfl) (hb hby at_90) (fun _ _ => ⟨rfl, e598, (by decide : 4 + 4 ≤ _), (by decide : 54 + 104 ≤ _)⟩)
    dsimp only [Pt.U, Pt.locs, Pt.cells, Pt.slots] at X620 hSc627 hgr628 l_623 y_624 z_625 st626 hQ622
    subst l_623 y_624 z_625
    obtain ⟨X630, hS631, hZ632, hown633⟩ := rebS hS580 (by rw [e598]; exact hk607) X620 hSc627 hgr628 hZ581 hown582
    obtain ⟨rfl, N634, K635, E636, F637⟩ := hQ622
    have N638 := Fr.app N590 N634
    have F639 := F608.keep K635
    have ne641 : a556 ≠ a604 := by rw [g605]; exact Nat.ne_of_lt E585.lt
    have F640 := F609.keep K635 (ninS ne641 nin0)
    have F642 := F610.keep K635 (ninS ne641 nin0)
    have F643 := F611.keep K635 (ninS ne641 nin0)
    have F644 := F612.keep K635 (ninS ne641 nin0)
    have F645 := A600.keep K635
    have Z646 : n0 ≤ T616.heap.size := Nat.le_trans Z613 K635.1
    have hk647 := Nat.le_trans hk607 (show h596.size ≤ T616.heap.size from K635.1)
    have e648 : T616.heap = T616.heap := rfl
    have k24 : own_K p e below (T616.setTop (mkF m 93 #[.val (.int av), .val (.int bv), .val (.int cv), .val (.int fv), .val (.int (own_len av)), .val (.int (1 : Int32)), .val (.int (own_st av bv)), .val (.int (own_en av bv cv)), .val (.ref a556), .unset, .unset, .unset, .unset] [(.ref a604)])) (s₁.setTop (entryFrame m #[(.int av), (.int bv), (.int cv), (.int fv)] maxLocals)) := fun t hh => k23 t (st626.trans hh)
    have k25 : own_K p e below (T616.setTop (mkF m 99 #[.val (.int av), .val (.int bv), .val (.int cv), .val (.int fv), .val (.int (own_len av)), .val (.int (1 : Int32)), .val (.int (own_st av bv)), .val (.int (own_en av bv cv)), .val (.ref a556), .val (.ref a604), .unset, .unset, .unset] [(.ref a604), (.ref a556)])) (s₁.setTop (entryFrame m #[(.int av), (.int bv), (.int cv), (.int fv)] maxLocals)) := fun t hh => k24 t (by
      refine XS.astore X630.here hx rfl (hb hby at_93) rfl rfl (l' := #[.val (.int av), .val (.int bv), .val (.int cv), .val (.int fv), .val (.int (own_len av)), .val (.int (1 : Int32)), .val (.int (own_st av bv)), .val (.int (own_en av bv cv)), .val (.ref a556), .val (.ref a604), .unset, .unset, .unset]) rfl ?_
      show Steps p.tables e below (T616.setTop (mkF m 95 #[.val (.int av), .val (.int bv), .val (.int cv), .val (.int fv), .val (.int (own_len av)), .val (.int (1 : Int32)), .val (.int (own_st av bv)), .val (.int (own_en av bv cv)), .val (.ref a556), .val (.ref a604), .unset, .unset, .unset] [])) _
      refine XS.aload X630.here hx rfl (hb hby at_95) rfl rfl ?_
      show Steps p.tables e below (T616.setTop (mkF m 97 #[.val (.int av), .val (.int bv), .val (.int cv), .val (.int fv), .val (.int (own_len av)), .val (.int (1 : Int32)), .val (.int (own_st av bv)), .val (.int (own_en av bv cv)), .val (.ref a556), .val (.ref a604), .unset, .unset, .unset] [(.ref a556)])) _
      refine XS.aload X630.here hx rfl (hb hby at_97) rfl rfl ?_
      show Steps p.tables e below (T616.setTop (mkF m 99 #[.val (.int av), .val (.int bv), .val (.int cv), .val (.int fv), .val (.int (own_len av)), .val (.int (1 : Int32)), .val (.int (own_st av bv)), .val (.int (own_en av bv cv)), .val (.ref a556), .val (.ref a604), .unset, .unset, .unset] [(.ref a604), (.ref a556)])) _
      exact hh)
    obtain ⟨cq660, kq661, qa662, qb663, qc664⟩ := isOf hZ632 e648 F639
    obtain ⟨_, _, ⟨T649, L650, k_651, n_652⟩, -, X653, hSc665, hgr666, ⟨Lc654, hQ655, l_656, y_657, z_658⟩, st659⟩ := X630.virtualBackS hx (y := (⟨"com/example/ample_gap/amplegap/simulation/Road", "withOnRamp", "(Lcom/example/ample_gap/amplegap/simulation/OnRamp;)Lcom/example/ample_gap/amplegap/simulation/Road;"⟩ : MethodName)) (z := (⟨"com/example/ample_gap/amplegap/simulation/Road", "withOnRamp", "(Lcom/example/ample_gap/amplegap/simulation/OnRamp;)Lcom/example/ample_gap/amplegap/simulation/Road;"⟩ : MethodName)) hown633 (mvT hZ632 (wT hw 62 rfl)) (mvT hZ632 (wT hw 63 rfl)) (notFace_of_selects (args := #[]) (mvT hZ632 (wT hw 65 rfl))) (mvT hZ632 (wT hw 65 rfl)) (mvT hZ632 (wT hw 64 rfl)) (by decide) (backOfS (W := 0) (rmW l Z a0 hw [] a556 a604 (FP.i2d (own_len av)) (FP.i2d (own_en av bv cv)) (1 : Int32) T616.heap n0 Z646 F639 E636 F640 F642 F643 F637 (own_le (own_en_rng av bv cv).2)) hZ632 (wT hw 66 rfl) (wT hw 3 rfl) (by decide) (by decide)) qa662 qc664 (g := (mkF m 99 #[.val (.int av), .val (.int bv), .val (.int cv), .val (.int fv), .val (.int (own_len av)), .val (.int (1 : Int32)), .val (.int (own_st av bv)), .val (.int (own_en av bv cv)), .val (.ref a556), .val (.ref a604), .unset, .unset, .unset] [(.ref a604), (.ref a556)])) rfl (by rw [hml]; rfl) (Steps.refl _) (argsL := [(.ref a604)]) (rest := []) (lenOf own_h18 rfl) rfl (by show 2 * 0 + _ ≤ _; exact Nat.le_of_eq rfl) (hb hby at_99) (fun _ _ => ⟨rfl, e648, (by decide : 8 + 3 ≤ _), (by decide : 158 + 24 ≤ _)⟩)
    dsimp only [Pt.U, Pt.locs, Pt.cells, Pt.slots] at X653 hSc665 hgr666 l_656 y_657 z_658 st659 hQ655
    subst l_656 y_657 z_658
    obtain ⟨X668, hS669, hZ670, hown671⟩ := rebS hS631 (by rw [e648]; exact (Nat.le_refl T616.heap.size)) X653 hSc665 hgr666 hZ632 hown633
    obtain ⟨b672, rfl, N673, K674, G675, E676, F677, F678⟩ := hQ655
    have N679 := Fr.app N638 N673
    have F680 := F639.keep K674
    have F681 := F640.keep K674 nin0
    have F682 := F642.keep K674 nin0
    have F683 := F643.keep K674 nin0
    have F684 := F644.keep K674 nin0
    have F685 := E636.keep K674
    have F686 := F637.keep K674 nin0
    have Z687 : n0 ≤ T649.heap.size := Nat.le_trans Z646 K674.1
    have hk688 := Nat.le_trans (Nat.le_refl T616.heap.size) (show T616.heap.size ≤ T649.heap.size from K674.1)
    have e689 : T649.heap = T649.heap := rfl
    have k26 : own_K p e below (T649.setTop (mkF m 102 #[.val (.int av), .val (.int bv), .val (.int cv), .val (.int fv), .val (.int (own_len av)), .val (.int (1 : Int32)), .val (.int (own_st av bv)), .val (.int (own_en av bv cv)), .val (.ref a556), .val (.ref a604), .unset, .unset, .unset] [(.ref b672)])) (s₁.setTop (entryFrame m #[(.int av), (.int bv), (.int cv), (.int fv)] maxLocals)) := fun t hh => k25 t (st659.trans hh)
    have k27 : own_K p e below (T649.setTop (mkF m 112 #[.val (.int av), .val (.int bv), .val (.int cv), .val (.int fv), .val (.int (own_len av)), .val (.int (1 : Int32)), .val (.int (own_st av bv)), .val (.int (own_en av bv cv)), .val (.ref a556), .val (.ref a604), .val (.ref b672), .val (.int (0 : Int32)), .val (.int (1 : Int32))] [(.ref b672)])) (s₁.setTop (entryFrame m #[(.int av), (.int bv), (.int cv), (.int fv)] maxLocals)) := fun t hh => k26 t (by
      refine XS.astore X668.here hx rfl (hb hby at_102) rfl rfl (l' := #[.val (.int av), .val (.int bv), .val (.int cv), .val (.int fv), .val (.int (own_len av)), .val (.int (1 : Int32)), .val (.int (own_st av bv)), .val (.int (own_en av bv cv)), .val (.ref a556), .val (.ref a604), .val (.ref b672), .unset, .unset]) rfl ?_
      show Steps p.tables e below (T649.setTop (mkF m 104 #[.val (.int av), .val (.int bv), .val (.int cv), .val (.int fv), .val (.int (own_len av)), .val (.int (1 : Int32)), .val (.int (own_st av bv)), .val (.int (own_en av bv cv)), .val (.ref a556), .val (.ref a604), .val (.ref b672), .unset, .unset] [])) _
      refine XS.iconst X668.here hx rfl (hb hby at_104) ?_
      show Steps p.tables e below (T649.setTop (mkF m 105 #[.val (.int av), .val (.int bv), .val (.int cv), .val (.int fv), .val (.int (own_len av)), .val (.int (1 : Int32)), .val (.int (own_st av bv)), .val (.int (own_en av bv cv)), .val (.ref a556), .val (.ref a604), .val (.ref b672), .unset, .unset] [(.int (0 : Int32))])) _
      refine XS.istore X668.here hx rfl (hb hby at_105) rfl (l' := #[.val (.int av), .val (.int bv), .val (.int cv), .val (.int fv), .val (.int (own_len av)), .val (.int (1 : Int32)), .val (.int (own_st av bv)), .val (.int (own_en av bv cv)), .val (.ref a556), .val (.ref a604), .val (.ref b672), .val (.int (0 : Int32)), .unset]) rfl ?_
      show Steps p.tables e below (T649.setTop (mkF m 107 #[.val (.int av), .val (.int bv), .val (.int cv), .val (.int fv), .val (.int (own_len av)), .val (.int (1 : Int32)), .val (.int (own_st av bv)), .val (.int (own_en av bv cv)), .val (.ref a556), .val (.ref a604), .val (.ref b672), .val (.int (0 : Int32)), .unset] [])) _
      refine XS.iconst X668.here hx rfl (hb hby at_107) ?_
      show Steps p.tables e below (T649.setTop (mkF m 108 #[.val (.int av), .val (.int bv), .val (.int cv), .val (.int fv), .val (.int (own_len av)), .val (.int (1 : Int32)), .val (.int (own_st av bv)), .val (.int (own_en av bv cv)), .val (.ref a556), .val (.ref a604), .val (.ref b672), .val (.int (0 : Int32)), .unset] [(.int (1 : Int32))])) _
      refine XS.istore X668.here hx rfl (hb hby at_108) rfl (l' := #[.val (.int av), .val (.int bv), .val (.int cv), .val (.int fv), .val (.int (own_len av)), .val (.int (1 : Int32)), .val (.int (own_st av bv)), .val (.int (own_en av bv cv)), .val (.ref a556), .val (.ref a604), .val (.ref b672), .val (.int (0 : Int32)), .val (.int (1 : Int32))]) rfl ?_
      show Steps p.tables e below (T649.setTop (mkF m 110 #[.val (.int av), .val (.int bv), .val (.int cv), .val (.int fv), .val (.int (own_len av)), .val (.int (1 : Int32)), .val (.int (own_st av bv)), .val (.int (own_en av bv cv)), .val (.ref a556), .val (.ref a604), .val (.ref b672), .val (.int (0 : Int32)), .val (.int (1 : Int32))] [])) _
      refine XS.aload X668.here hx rfl (hb hby at_110) rfl rfl ?_
      show Steps p.tables e below (T649.setTop (mkF m 112 #[.val (.int av), .val (.int bv), .val (.int cv), .val (.int fv), .val (.int (own_len av)), .val (.int (1 : Int32)), .val (.int (own_st av bv)), .val (.int (own_en av bv cv)), .val (.ref a556), .val (.ref a604), .val (.ref b672), .val (.int (0 : Int32)), .val (.int (1 : Int32))] [(.ref b672)])) _
      exact hh)
    obtain ⟨cq701, kq702, qa703, qb704, qc705⟩ := isOf hZ670 e689 E676
    obtain ⟨_, _, ⟨T690, L691, k_692, n_693⟩, -, X694, ⟨Lc695, hQ696, l_697, y_698, z_699⟩, st700⟩ := X668.virtualBack hx (y := (⟨"com/example/ample_gap/amplegap/simulation/Road", "lowestLane", "()I"⟩ : MethodName)) (z := (⟨"com/example/ample_gap/amplegap/simulation/Road", "lowestLane", "()I"⟩ : MethodName)) hown671 (mvT hZ670 (wT hw 81 rfl)) (mvT hZ670 (wT hw 82 rfl)) (notFace_of_selects (args := #[]) (mvT hZ670 (wT hw 84 rfl))) (mvT hZ670 (wT hw 84 rfl)) (mvT hZ670 (wT hw 83 rfl)) (by decide) (backOf (W := 0) (rmL0 l Z a0 hw [] b672 a604 T649.heap n0 Z687 F678) hZ670 (wT hw 85 rfl) (wT hw 3 rfl) (by decide) (by decide)) qa703 qc705 (g := (mkF m 112 #[.val (.int av), .val (.int bv), .val (.int cv), .val (.int fv), .val (.int (own_len av)), .val (.int (1 : Int32)), .val (.int (own_st av bv)), .val (.int (own_en av bv cv)), .val (.ref a556), .val (.ref a604), .val (.ref b672), .val (.int (0 : Int32)), .val (.int (1 : Int32))] [(.ref b672)])) rfl (by rw [hml]; rfl) (Steps.refl _) (argsL := []) (rest := []) (lenOf own_h22 rfl) rfl (by show 2 * 0 + _ ≤ _; exact Nat.le_of_eq rfl) (hb hby at_112) (fun _ _ => ⟨rfl, e689, (by decide : 11 + 0 ≤ _), (by decide : 182 + 0 ≤ _)⟩)
    dsimp only [Pt.U, Pt.locs, Pt.cells, Pt.slots] at X694 l_697 y_698 z_699 st700 hQ696
    subst l_697 y_698 z_699
    obtain ⟨rfl, N706, e707⟩ := hQ696
    have N708 := Fr.app N679 N706
    have k28 : own_K p e below (T690.setTop (mkF m 115 #[.val (.int av), .val (.int bv), .val (.int cv), .val (.int fv), .val (.int (own_len av)), .val (.int (1 : Int32)), .val (.int (own_st av bv)), .val (.int (own_en av bv cv)), .val (.ref a556), .val (.ref a604), .val (.ref b672), .val (.int (0 : Int32)), .val (.int (1 : Int32))] [(.int (0 : Int32))])) (s₁.setTop (entryFrame m #[(.int av), (.int bv), (.int cv), (.int fv)] maxLocals)) := fun t hh => k27 t (st700.trans hh)
    have k29 : own_K p e below (T690.setTop (mkF m 122 #[.val (.int av), .val (.int bv), .val (.int cv), .val (.int fv), .val (.int (own_len av)), .val (.int (1 : Int32)), .val (.int (own_st av bv)), .val (.int (own_en av bv cv)), .val (.ref a556), .val (.ref a604), .val (.ref b672), .val (.int (0 : Int32)), .val (.int (1 : Int32))] [(.ref a556)])) (s₁.setTop (entryFrame m #[(.int av), (.int bv), (.int cv), (.int fv)] maxLocals)) := fun t hh => k28 t (by
      refine XS.iload X694.here hx rfl (hb hby at_115) rfl ?_
      show Steps p.tables e below (T690.setTop (mkF m 117 #[.val (.int av), .val (.int bv), .val (.int cv), .val (.int fv), .val (.int (own_len av)), .val (.int (1 : Int32)), .val (.int (own_st av bv)), .val (.int (own_en av bv cv)), .val (.ref a556), .val (.ref a604), .val (.ref b672), .val (.int (0 : Int32)), .val (.int (1 : Int32))] [(.int (0 : Int32)), (.int (0 : Int32))])) _
      refine XS.icmpNo X694.here hx rfl (hb hby at_117) rfl (by decide) ?_
      show Steps p.tables e below (T690.setTop (mkF m 120 #[.val (.int av), .val (.int bv), .val (.int cv), .val (.int fv), .val (.int (own_len av)), .val (.int (1 : Int32)), .val (.int (own_st av bv)), .val (.int (own_en av bv cv)), .val (.ref a556), .val (.ref a604), .val (.ref b672), .val (.int (0 : Int32)), .val (.int (1 : Int32))] [])) _
      refine XS.aload X694.here hx rfl (hb hby at_120) rfl rfl ?_
      show Steps p.tables e below (T690.setTop (mkF m 122 #[.val (.int av), .val (.int bv), .val (.int cv), .val (.int fv), .val (.int (own_len av)), .val (.int (1 : Int32)), .val (.int (own_st av bv)), .val (.int (own_en av bv cv)), .val (.ref a556), .val (.ref a604), .val (.ref b672), .val (.int (0 : Int32)), .val (.int (1 : Int32))] [(.ref a556)])) _
      exact hh)
    obtain ⟨cq720, kq721, qa722, qb723, qc724⟩ := isOf hZ670 e707 F680
    obtain ⟨_, _, ⟨T709, L710, k_711, n_712⟩, -, X713, ⟨Lc714, hQ715, l_716, y_717, z_718⟩, st719⟩ := X694.virtualBack hx (y := (⟨"com/example/ample_gap/amplegap/simulation/Road", "lowestLane", "()I"⟩ : MethodName)) (z := (⟨"com/example/ample_gap/amplegap/simulation/Road", "lowestLane", "()I"⟩ : MethodName)) hown671 (mvT hZ670 (wT hw 81 rfl)) (mvT hZ670 (wT hw 82 rfl)) (notFace_of_selects (args := #[]) (mvT hZ670 (wT hw 84 rfl))) (mvT hZ670 (wT hw 84 rfl)) (mvT hZ670 (wT hw 83 rfl)) (by decide) (backOf (W := 0) (rmL1 l Z a0 hw [] a556 T649.heap n0 Z687 F684) hZ670 (wT hw 85 rfl) (wT hw 3 rfl) (by decide) (by decide)) qa722 qc724 (g := (mkF m 122 #[.val (.int av), .val (.int bv), .val (.int cv), .val (.int fv), .val (.int (own_len av)), .val (.int (1 : Int32)), .val (.int (own_st av bv)), .val (.int (own_en av bv cv)), .val (.ref a556), .val (.ref a604), .val (.ref b672), .val (.int (0 : Int32)), .val (.int (1 : Int32))] [(.ref a556)])) rfl (by rw [hml]; rfl) (Steps.refl _) (argsL := []) (rest := []) (lenOf own_h22 rfl) rfl (by show 2 * 0 + _ ≤ _; exact Nat.le_of_eq rfl) (hb hby at_122) (fun _ _ => ⟨rfl, e707, (by decide : 11 + 0 ≤ _), (by decide : 182 + 0 ≤ _)⟩)
    dsimp only [Pt.U, Pt.locs, Pt.cells, Pt.slots] at X713 l_716 y_717 z_718 st719 hQ715
    subst l_716 y_717 z_718
    obtain ⟨rfl, N725, e726⟩ := hQ715
    have N727 := Fr.app N708 N725
    have k30 : own_K p e below (T709.setTop (mkF m 125 #[.val (.int av), .val (.int bv), .val (.int cv), .val (.int fv), .val (.int (own_len av)), .val (.int (1 : Int32)), .val (.int (own_st av bv)), .val (.int (own_en av bv cv)), .val (.ref a556), .val (.ref a604), .val (.ref b672), .val (.int (0 : Int32)), .val (.int (1 : Int32))] [(.int (1 : Int32))])) (s₁.setTop (entryFrame m #[(.int av), (.int bv), (.int cv), (.int fv)] maxLocals)) := fun t hh => k29 t (st719.trans hh)
    have k31 : own_K p e below (T709.setTop (mkF m 135 #[.val (.int av), .val (.int bv), .val (.int cv), .val (.int fv), .val (.int (own_len av)), .val (.int (1 : Int32)), .val (.int (own_st av bv)), .val (.int (own_en av bv cv)), .val (.ref a556), .val (.ref a604), .val (.ref b672), .val (.int (0 : Int32)), .val (.int (1 : Int32))] [(.int (1 : Int32))])) (s₁.setTop (entryFrame m #[(.int av), (.int bv), (.int cv), (.int fv)] maxLocals)) := fun t hh => k30 t (by
      refine XS.iload X713.here hx rfl (hb hby at_125) rfl ?_
      show Steps p.tables e below (T709.setTop (mkF m 127 #[.val (.int av), .val (.int bv), .val (.int cv), .val (.int fv), .val (.int (own_len av)), .val (.int (1 : Int32)), .val (.int (own_st av bv)), .val (.int (own_en av bv cv)), .val (.ref a556), .val (.ref a604), .val (.ref b672), .val (.int (0 : Int32)), .val (.int (1 : Int32))] [(.int (1 : Int32)), (.int (1 : Int32))])) _
      refine XS.icmpNo X713.here hx rfl (hb hby at_127) rfl (by decide) ?_
      show Steps p.tables e below (T709.setTop (mkF m 130 #[.val (.int av), .val (.int bv), .val (.int cv), .val (.int fv), .val (.int (own_len av)), .val (.int (1 : Int32)), .val (.int (own_st av bv)), .val (.int (own_en av bv cv)), .val (.ref a556), .val (.ref a604), .val (.ref b672), .val (.int (0 : Int32)), .val (.int (1 : Int32))] [])) _
      refine XS.iconst X713.here hx rfl (hb hby at_130) ?_
      show Steps p.tables e below (T709.setTop (mkF m 131 #[.val (.int av), .val (.int bv), .val (.int cv), .val (.int fv), .val (.int (own_len av)), .val (.int (1 : Int32)), .val (.int (own_st av bv)), .val (.int (own_en av bv cv)), .val (.ref a556), .val (.ref a604), .val (.ref b672), .val (.int (0 : Int32)), .val (.int (1 : Int32))] [(.int (1 : Int32))])) _
      refine XS.goto X713.here hx rfl (pc0 := 131) (pc' := 135) rfl (hb hby at_131) (by decide) (by decide) ?_
      show Steps p.tables e below (T709.setTop (mkF m 135 #[.val (.int av), .val (.int bv), .val (.int cv), .val (.int fv), .val (.int (own_len av)), .val (.int (1 : Int32)), .val (.int (own_st av bv)), .val (.int (own_en av bv cv)), .val (.ref a556), .val (.ref a604), .val (.ref b672), .val (.int (0 : Int32)), .val (.int (1 : Int32))] [(.int (1 : Int32))])) _
      exact hh)
    obtain ⟨fs, hr, hrun, hended, hEnd⟩ := X713.leaveW hS669 (by rw [e726]; exact (Nat.le_refl T649.heap.size)) (v := some (.int (1 : Int32))) (fun h => by rw [Bd.returns] at h; cases h)
    refine ⟨_, _, k31 _ (retN X713 hx (t := .boolean) Bd.returns (by simp) (hb hby at_135) hr), hrun, hended, _, _, rfl, ?_, hEnd.1, hEnd.2.1, hEnd.2.2.1, hEnd.2.2.2.mono (by decide) (by decide)⟩
    show QL h0 n0 _ T709.heap _
    rw [e726]
    exact ⟨rfl, N727⟩
set_option maxRecDepth 65536 in
set_option maxHeartbeats 40000000 in
theorem comes_1 {Post : Tables → Env → Array Value → State → Outcome → State → Prop} (hpost : ∀ tb e args s v u, (limb_1_1.after args s (.returned v) u = true ∧ limb_1_2.after args s (.returned v) u = true ∧ True) → ReturnedEndW s (.returned v) u (Jvm.fieldLocs frame_1_writes args s ++ Jvm.arrayLocs frame_1_arrays args s ++ Jvm.staticLocs frame_1_statics s) 24 4224 → Post tb e args s (.returned v) u) :
    ArmFor flags0 classFile x code maxLocals ret World_1 tables_1 room_1 Calls_1 rest_1 Pre_1 Post := by
  intro l hfl _ _ p e ha hc hk s m args below hf hA hF happ hP
  obtain ⟨hcalls, hrest, hpre⟩ := hP
  obtain ⟨-, -, -, hnamed, -, -, -, hat⟩ := (Spec.applies_iff hf).mp happ
  obtain ⟨hg, hn⟩ := and_e (Cond.before_iff.mp (show (Jvm.Cond.and given_1 narrow_1).before args s = true from hpre))
  obtain ⟨h1, g0⟩ := and_e hg
  obtain ⟨j0, g1⟩ := and_e g0
  obtain ⟨j1, g2⟩ := and_e g1
  obtain ⟨j2, g3⟩ := and_e g2
  have j3 := g3
  obtain ⟨w0, w1, w2, w3, rfl⟩ : ∃ w0 w1 w2 w3 : Value, args = #[w0, w1, w2, w3] := by
    have hs : args.size = 4 := by simpa [Cond.value, given_1] using h1
    obtain ⟨L⟩ := args
    match L, hs with
    | [w0, w1, w2, w3], _ => exact ⟨w0, w1, w2, w3, rfl⟩
  have hw := fun d (hd : d ∈ tables_1) => atoms_spec (ws := Jvm.Cond.code x code maxLocals ret :: tables_1) hat d (List.mem_cons_of_mem _ hd)
  have hfit : Fit s := fun {y c} hc i hi => by
    obtain ⟨ha, rfl⟩ := Array.getElem?_eq_some_iff.mp hc
    have q := List.all_eq_true.mp ((Array.all_eq_true_iff_forall_mem.mp hF) _ (Array.getElem_mem ha)) i (List.mem_range.mpr hi)
    simpa [Array.getElem?_eq_getElem hi] using q
  obtain ⟨i0, q0⟩ := is_v j0
  obtain rfl : w0 = (.int i0) := Option.some.inj q0
  obtain ⟨i1, q1⟩ := is_v j1
  obtain rfl : w1 = (.int i1) := Option.some.inj q1
  obtain ⟨i2, q2⟩ := is_v j2
  obtain rfl : w2 = (.int i2) := Option.some.inj q2
  obtain ⟨i3, q3⟩ := is_v j3
  obtain rfl : w3 = (.int i3) := Option.some.inj q3
  obtain ⟨n, o, h1, h2, h3, _, L, rfl, ⟨rfl, N⟩, hq⟩ := rmL l s _ hw tables_1 i0 i1 i2 i3 s.heap s.heap.size (Nat.le_refl _)  p e ha hc hk s m _ below hf ((Spec.applies_iff_loose hf).mp happ).1 ⟨rfl, State.Warmed39.refl s, rfl⟩ trivial
  refine ⟨n, _, h1, h2, h3, hpost _ _ _ _ _ _ ⟨Cond.after_iff.mpr rfl, Cond.after_iff.mpr (eq_i res_at (Term.int_eval (1)) rfl), trivial⟩ ⟨hq.1, hq.2.1, hq.2.2.1, (hq.2.2.2.sift fun y hy => Or.inr (N y hy)).mono (by decide) (by decide)⟩⟩
theorem main_1_1 : Claimed_1_1 := comes_1 fun _ _ _ _ _ _ h hF => ⟨h.1, hF⟩
theorem main_1_2 : Claimed_1_2 := comes_1 fun _ _ _ _ _ _ h hF => ⟨h.2.1, hF⟩
end Jvm.Pilot.@@N@@
namespace Jvm.Pilot.@@N@@
open Jvm Jvm.ClassFile Sem Op Lib Jvm.Free Jvm.Stand Jvm.Pilot.@@N@@.Jvm.D
/-! MADE BY PROGRAM (witnessworld.py) out of the Statement's table words and the real class files: 20 classes; the members and pool entries that the words name. The judged class is class 1, her method 1. -/
namespace start1
open Jvm.ClassFile
def u (s : String) : CpInfo := .utf8 (stringToUtf16 s)
/-- a pool by its gaps: so many unusable entries, then the entry; so many at the end -/
def gap : Nat → List CpInfo → List CpInfo
  | 0, r => r
  | n + 1, r => .unusable :: gap n r
def poolList (es : List (Nat × CpInfo)) (last : Nat) : List CpInfo := es.foldr (fun e r => gap e.1 (e.2 :: r)) (gap last [])
def pool (es : List (Nat × CpInfo)) (last : Nat) : Array CpInfo := ⟨poolList es last⟩
def fileOf (pool : Array CpInfo) (this : Nat) (attrs : Array Attribute := #[]) (ms : Array MethodInfo := #[]) (fl : Nat := 33) (sup : Nat := 0) (ifs : Array Nat := #[]) (fds : Array FieldInfo := #[]) : ClassFile where
  minorVersion := 0
  majorVersion := 65
  constantPool := pool
  accessFlags := fl
  thisClass := this
  superClass := sup
  interfaces := ifs
  fields := fds
  methods := ms
  attributes := attrs
def plain (name : String) (sup : Option ClassId) : Class where
  name := name
  kind := .ordinary
  loader := none
  accessFlags := 33
  super := sup
  interfaces := #[]
  cf := none
  fields := #[]
  methods := #[]
  instanceTypes := #[]
  staticTypes := #[]
  resolved := #[]
  callSites := []
  init := .initialized
  statics := none
  mirror := none

def pool0 : Array CpInfo := pool [(5, u "<init>"), (0, u "()V"), (1, .class_ 10), (1, u "java/lang/Object")] 113

def k0c0 : Code := { maxStack := 0, maxLocals := 1, code := object_method_1_code, exceptionTable := #[], attributes := #[] }
def k0m0 : Method := { name := "<init>", desc := "()V", sig := { parameters := [], returnType := none }, accessFlags := 1, code := some k0c0 }
/-- java/lang/Object -/
def k0 : Class := { plain "java/lang/Object" none with
  accessFlags := 33
  interfaces := #[]
  cf := some (fileOf pool0 8 #[] #[{ accessFlags := 1, nameIndex := 5, descriptorIndex := 6, attributes := #[] }] 33 0 #[] #[])
  fields := #[]
  methods := #[k0m0]
  instanceTypes := #[]
  staticTypes := #[]
  resolved := Array.replicate 124 none
  statics := none }

def pool1 : Array CpInfo := pool [(2, .class_ 4), (1, u "java/lang/Object"), (0, u "<init>"), (0, u "()V"), (0, .integer 2147483647), (0, .class_ 9), (0, u "com/example/ample_gap/amplegap/simulation/Road"), (0, .methodref 8 11), (0, .nameAndType 5 12), (0, u "(D)V"), (0, .methodref 8 14), (0, .nameAndType 15 16), (0, u "lowestLane"), (0, u "()I"), (0, .class_ 18), (0, u "com/example/ample_gap/amplegap/simulation/OnRamp"), (0, .methodref 17 20), (0, .nameAndType 5 21), (0, u "(DD)V"), (0, .methodref 8 23), (0, .nameAndType 24 25), (0, u "withOnRamp"), (0, u "(Lcom/example/ample_gap/amplegap/simulation/OnRamp;)Lcom/example/ample_gap/amplegap/simulation/Road;"), (0, .class_ 27), (0, u "com/example/ample_gap/amplegap/simulation/RoadLowestLanePinLaw"), (2, u "law"), (0, u "(IIII)Z")] 3

def k1m0 : Method := { name := "<init>", desc := "()V", sig := { parameters := [], returnType := none }, accessFlags := 1, code := none }
def k1c1 : Code := { maxStack := 6, maxLocals := 13, code := code, exceptionTable := #[], attributes := #[] }
def k1m1 : Method := { name := "law", desc := "(IIII)Z", sig := { parameters := [.int, .int, .int, .int], returnType := some .boolean }, accessFlags := 9, code := some k1c1 }
/-- com/example/ample_gap/amplegap/simulation/RoadLowestLanePinLaw -/
def k1 : Class := { plain "com/example/ample_gap/amplegap/simulation/RoadLowestLanePinLaw" (some 0) with
  accessFlags := 49
  interfaces := #[]
  cf := some (fileOf pool1 26 #[] #[{ accessFlags := 1, nameIndex := 5, descriptorIndex := 6, attributes := #[] }, { accessFlags := 9, nameIndex := 30, descriptorIndex := 31, attributes := #[] }] 49 2 #[] #[])
  fields := #[]
  methods := #[k1m0, k1m1]
  instanceTypes := #[]
  staticTypes := #[]
  resolved := Array.replicate 35 none
  statics := none }

def pool2 : Array CpInfo := pool [(1, .methodref 2 3), (0, .class_ 4), (0, .nameAndType 5 6), (0, u "com/example/ample_gap/amplegap/simulation/Road"), (0, u "<init>"), (0, u "(DIZ)V"), (0, .methodref 8 9), (0, .class_ 10), (0, .nameAndType 5 11), (0, u "java/lang/Object"), (0, u "()V"), (11, .string 24), (0, u "road length"), (0, .methodref 26 27), (0, .class_ 28), (0, .nameAndType 29 30), (0, u "com/example/ample_gap/amplegap/model/Ranges"), (0, u "requirePositive"), (0, u "(Ljava/lang/String;D)D"), (0, .fieldref 2 32), (0, .nameAndType 33 34), (0, u "length"), (0, u "D"), (0, .fieldref 2 36), (0, .nameAndType 37 38), (0, u "lanes"), (0, u "I"), (0, .fieldref 2 40), (0, .nameAndType 41 42), (0, u "ring"), (0, u "Z"), (0, .fieldref 2 44), (0, .nameAndType 45 46), (0, u "onRamp"), (0, u "Lcom/example/ample_gap/amplegap/simulation/OnRamp;"), (0, .string 48), (0, u "ramp"), (0, .methodref 50 51), (0, .class_ 52), (0, .nameAndType 53 54), (0, u "java/util/Objects"), (0, u "requireNonNull"), (0, u "(Ljava/lang/Object;Ljava/lang/String;)Ljava/lang/Object;"), (2, .methodref 58 59), (0, .class_ 60), (0, .nameAndType 61 62), (0, u "com/example/ample_gap/amplegap/simulation/OnRamp"), (0, u "end"), (0, u "()D"), (3, .methodref 2 67), (0, .nameAndType 5 68), (0, u "(Lcom/example/ample_gap/amplegap/simulation/Road;Lcom/example/ample_gap/amplegap/simulation/OnRamp;)V"), (8, u "lowestLane"), (0, u "()I"), (0, u "MAX_LANES"), (2, u "(D)V"), (10, u "withOnRamp"), (0, u "(Lcom/example/ample_gap/amplegap/simulation/OnRamp;)Lcom/example/ample_gap/amplegap/simulation/Road;")] 24

def k2c0 : Code := { maxStack := 5, maxLocals := 3, code := prog_49_method_1_code, exceptionTable := #[], attributes := #[] }
def k2m0 : Method := { name := "<init>", desc := "(D)V", sig := { parameters := [.double], returnType := none }, accessFlags := 1, code := some k2c0 }
def k2c1 : Code := { maxStack := 4, maxLocals := 5, code := prog_49_method_3_code, exceptionTable := #[], attributes := #[] }
def k2m1 : Method := { name := "<init>", desc := "(DIZ)V", sig := { parameters := [.double, .int, .boolean], returnType := none }, accessFlags := 2, code := some k2c1 }
def k2c2 : Code := { maxStack := 3, maxLocals := 3, code := prog_49_method_4_code, exceptionTable := #[], attributes := #[] }
def k2m2 : Method := { name := "<init>", desc := "(Lcom/example/ample_gap/amplegap/simulation/Road;Lcom/example/ample_gap/amplegap/simulation/OnRamp;)V", sig := { parameters := [(.object "com/example/ample_gap/amplegap/simulation/Road"), (.object "com/example/ample_gap/amplegap/simulation/OnRamp")], returnType := none }, accessFlags := 2, code := some k2c2 }
def k2c3 : Code := { maxStack := 6, maxLocals := 2, code := prog_49_method_10_code, exceptionTable := #[], attributes := #[] }
def k2m3 : Method := { name := "withOnRamp", desc := "(Lcom/example/ample_gap/amplegap/simulation/OnRamp;)Lcom/example/ample_gap/amplegap/simulation/Road;", sig := { parameters := [(.object "com/example/ample_gap/amplegap/simulation/OnRamp")], returnType := some (.object "com/example/ample_gap/amplegap/simulation/Road") }, accessFlags := 1, code := some k2c3 }
def k2c4 : Code := { maxStack := 1, maxLocals := 1, code := prog_49_method_12_code, exceptionTable := #[], attributes := #[] }
def k2m4 : Method := { name := "lowestLane", desc := "()I", sig := { parameters := [], returnType := some .int }, accessFlags := 1, code := some k2c4 }
/-- com/example/ample_gap/amplegap/simulation/Road -/
def k2 : Class := { plain "com/example/ample_gap/amplegap/simulation/Road" (some 0) with
  accessFlags := 33
  interfaces := #[]
  cf := some (fileOf pool2 2 #[] #[{ accessFlags := 1, nameIndex := 5, descriptorIndex := 82, attributes := #[] }, { accessFlags := 2, nameIndex := 5, descriptorIndex := 6, attributes := #[] }, { accessFlags := 2, nameIndex := 5, descriptorIndex := 68, attributes := #[] }, { accessFlags := 1, nameIndex := 93, descriptorIndex := 94, attributes := #[] }, { accessFlags := 1, nameIndex := 77, descriptorIndex := 78, attributes := #[] }] 33 8 #[] #[{ accessFlags := 25, nameIndex := 79, descriptorIndex := 38, attributes := #[] }, { accessFlags := 18, nameIndex := 33, descriptorIndex := 34, attributes := #[] }, { accessFlags := 18, nameIndex := 37, descriptorIndex := 38, attributes := #[] }, { accessFlags := 18, nameIndex := 41, descriptorIndex := 42, attributes := #[] }, { accessFlags := 18, nameIndex := 45, descriptorIndex := 46, attributes := #[] }])
  fields := #[{ name := "MAX_LANES", type := .int, accessFlags := 25, slot := 0, constantValue := 0 }, { name := "length", type := .double, accessFlags := 18, slot := 0, constantValue := 0 }, { name := "lanes", type := .int, accessFlags := 18, slot := 1, constantValue := 0 }, { name := "ring", type := .boolean, accessFlags := 18, slot := 2, constantValue := 0 }, { name := "onRamp", type := (.object "com/example/ample_gap/amplegap/simulation/OnRamp"), accessFlags := 18, slot := 3, constantValue := 0 }]
  methods := #[k2m0, k2m1, k2m2, k2m3, k2m4]
  instanceTypes := #[.double, .int, .boolean, (.object "com/example/ample_gap/amplegap/simulation/OnRamp")]
  staticTypes := #[.int]
  resolved := Array.replicate 119 none
  statics := none }

def pool3 : Array CpInfo := pool [(1, .class_ 2), (0, u "java/io/Serializable"), (0, .class_ 4), (0, u "java/lang/Object")] 2

/-- java/io/Serializable -/
def k3 : Class := { plain "java/io/Serializable" (some 0) with
  accessFlags := 1537
  interfaces := #[]
  cf := some (fileOf pool3 1 #[] #[] 1537 3 #[] #[])
  fields := #[]
  methods := #[]
  instanceTypes := #[]
  staticTypes := #[]
  resolved := Array.replicate 7 none
  statics := none }

def pool4 : Array CpInfo := pool [(1, .class_ 2), (0, u "java/lang/Comparable"), (0, .class_ 4), (0, u "java/lang/Object")] 7

/-- java/lang/Comparable -/
def k4 : Class := { plain "java/lang/Comparable" (some 0) with
  accessFlags := 1537
  interfaces := #[]
  cf := some (fileOf pool4 1 #[] #[] 1537 3 #[] #[])
  fields := #[]
  methods := #[]
  instanceTypes := #[]
  staticTypes := #[]
  resolved := Array.replicate 12 none
  statics := none }

def pool5 : Array CpInfo := pool [(2, .class_ 4), (1, u "java/lang/CharSequence"), (42, .class_ 48), (0, u "java/lang/CharSequence$1CodePointIterator"), (10, .class_ 60), (0, u "java/lang/CharSequence$1CharIterator"), (5, .class_ 67), (0, u "java/lang/Object")] 63

/-- java/lang/CharSequence -/
def k5 : Class := { plain "java/lang/CharSequence" (some 0) with
  accessFlags := 1537
  interfaces := #[]
  cf := some (fileOf pool5 2 #[.nestMembers #[47, 59]] #[] 1537 66 #[] #[])
  fields := #[]
  methods := #[]
  instanceTypes := #[]
  staticTypes := #[]
  resolved := Array.replicate 131 none
  statics := none }

def pool6 : Array CpInfo := pool [(1, .class_ 2), (0, u "java/lang/constant/Constable"), (0, .class_ 4), (0, u "java/lang/Object")] 6

/-- java/lang/constant/Constable -/
def k6 : Class := { plain "java/lang/constant/Constable" (some 0) with
  accessFlags := 1537
  interfaces := #[]
  cf := some (fileOf pool6 1 #[] #[] 1537 3 #[] #[])
  fields := #[]
  methods := #[]
  instanceTypes := #[]
  staticTypes := #[]
  resolved := Array.replicate 11 none
  statics := none }

def pool7 : Array CpInfo := pool [(1, .class_ 2), (0, u "java/lang/constant/ConstantDesc"), (0, .class_ 4), (0, u "java/lang/Object")] 32

/-- java/lang/constant/ConstantDesc -/
def k7 : Class := { plain "java/lang/constant/ConstantDesc" (some 0) with
  accessFlags := 1537
  interfaces := #[]
  cf := some (fileOf pool7 1 #[] #[] 1537 3 #[] #[])
  fields := #[]
  methods := #[]
  instanceTypes := #[]
  staticTypes := #[]
  resolved := Array.replicate 37 none
  statics := none }

def pool8 : Array CpInfo := pool [(2, .class_ 4), (1, u "java/lang/Object"), (0, u "<init>"), (0, u "()V"), (3, .class_ 12), (1, u "java/lang/String"), (0, u "value"), (0, u "[B"), (2, u "coder"), (0, u "B"), (2, u "hash"), (0, u "I"), (2, u "hashIsZero"), (0, u "Z"), (13, u "COMPACT_STRINGS"), (534, .class_ 576), (0, u "java/lang/CharSequence"), (22, u "CASE_INSENSITIVE_ORDER"), (0, u "Ljava/util/Comparator;"), (500, u "serialPersistentFields"), (0, u "[Ljava/io/ObjectStreamField;"), (0, .class_ 1104), (0, u "java/lang/String$CaseInsensitiveComparator"), (1, .class_ 1107), (0, u "java/io/Serializable"), (0, .class_ 1109), (0, u "java/lang/Comparable"), (0, .class_ 1111), (0, u "java/lang/constant/Constable"), (0, .class_ 1113), (0, u "java/lang/constant/ConstantDesc"), (2, u "serialVersionUID"), (0, u "J"), (3, u "REPL"), (0, u "C"), (2, u "LATIN1"), (1, u "UTF16")] 323

def k8m0 : Method := { name := "<init>", desc := "()V", sig := { parameters := [], returnType := none }, accessFlags := 1, code := none }
/-- java/lang/String -/
def k8 : Class := { plain "java/lang/String" (some 0) with
  accessFlags := 49
  interfaces := #[3, 4, 5, 6, 7]
  cf := some (fileOf pool8 10 #[.nestMembers #[1103]] #[{ accessFlags := 1, nameIndex := 5, descriptorIndex := 6, attributes := #[] }] 49 2 #[1106, 1108, 575, 1110, 1112] #[{ accessFlags := 18, nameIndex := 13, descriptorIndex := 14, attributes := #[] }, { accessFlags := 18, nameIndex := 17, descriptorIndex := 18, attributes := #[] }, { accessFlags := 2, nameIndex := 21, descriptorIndex := 22, attributes := #[] }, { accessFlags := 2, nameIndex := 25, descriptorIndex := 26, attributes := #[] }, { accessFlags := 26, nameIndex := 1116, descriptorIndex := 1117, attributes := #[] }, { accessFlags := 24, nameIndex := 40, descriptorIndex := 26, attributes := #[] }, { accessFlags := 26, nameIndex := 1101, descriptorIndex := 1102, attributes := #[] }, { accessFlags := 26, nameIndex := 1121, descriptorIndex := 1122, attributes := #[] }, { accessFlags := 25, nameIndex := 599, descriptorIndex := 600, attributes := #[] }, { accessFlags := 24, nameIndex := 1125, descriptorIndex := 18, attributes := #[] }, { accessFlags := 24, nameIndex := 1127, descriptorIndex := 18, attributes := #[] }])
  fields := #[{ name := "value", type := (.array .byte), accessFlags := 18, slot := 0, constantValue := 0 }, { name := "coder", type := .byte, accessFlags := 18, slot := 1, constantValue := 0 }, { name := "hash", type := .int, accessFlags := 2, slot := 2, constantValue := 0 }, { name := "hashIsZero", type := .boolean, accessFlags := 2, slot := 3, constantValue := 0 }, { name := "serialVersionUID", type := .long, accessFlags := 26, slot := 0, constantValue := 0 }, { name := "COMPACT_STRINGS", type := .boolean, accessFlags := 24, slot := 1, constantValue := 0 }, { name := "serialPersistentFields", type := (.array (.object "java/io/ObjectStreamField")), accessFlags := 26, slot := 2, constantValue := 0 }, { name := "REPL", type := .char, accessFlags := 26, slot := 3, constantValue := 0 }, { name := "CASE_INSENSITIVE_ORDER", type := (.object "java/util/Comparator"), accessFlags := 25, slot := 4, constantValue := 0 }, { name := "LATIN1", type := .byte, accessFlags := 24, slot := 5, constantValue := 0 }, { name := "UTF16", type := .byte, accessFlags := 24, slot := 6, constantValue := 0 }]
  methods := #[k8m0]
  instanceTypes := #[(.array .byte), .byte, .int, .boolean]
  staticTypes := #[.long, .boolean, (.array (.object "java/io/ObjectStreamField")), .char, (.object "java/util/Comparator"), .byte, .byte]
  resolved := Array.replicate 1451 none
  statics := none }

def pool9 : Array CpInfo := pool [(2, .class_ 4), (1, u "java/lang/Object"), (0, u "<init>"), (0, u "()V"), (0, .methodref 8 9), (0, .class_ 10), (0, .nameAndType 11 12), (0, u "com/example/ample_gap/amplegap/model/Ranges"), (0, u "requireFinite"), (0, u "(Ljava/lang/String;D)D"), (13, .methodref 27 28), (0, .class_ 29), (0, .nameAndType 30 31), (0, u "java/lang/Double"), (0, u "isFinite"), (0, u "(D)Z"), (3, u "requirePositive"), (1, u "requireNonNegative")] 22

def k9m0 : Method := { name := "<init>", desc := "()V", sig := { parameters := [], returnType := none }, accessFlags := 2, code := none }
def k9c1 : Code := { maxStack := 5, maxLocals := 3, code := prog_30_method_2_code, exceptionTable := #[], attributes := #[] }
def k9m1 : Method := { name := "requirePositive", desc := "(Ljava/lang/String;D)D", sig := { parameters := [(.object "java/lang/String"), .double], returnType := some .double }, accessFlags := 9, code := some k9c1 }
def k9c2 : Code := { maxStack := 5, maxLocals := 3, code := prog_30_method_3_code, exceptionTable := #[], attributes := #[] }
def k9m2 : Method := { name := "requireNonNegative", desc := "(Ljava/lang/String;D)D", sig := { parameters := [(.object "java/lang/String"), .double], returnType := some .double }, accessFlags := 9, code := some k9c2 }
def k9c3 : Code := { maxStack := 5, maxLocals := 3, code := prog_30_method_5_code, exceptionTable := #[], attributes := #[] }
def k9m3 : Method := { name := "requireFinite", desc := "(Ljava/lang/String;D)D", sig := { parameters := [(.object "java/lang/String"), .double], returnType := some .double }, accessFlags := 9, code := some k9c3 }
/-- com/example/ample_gap/amplegap/model/Ranges -/
def k9 : Class := { plain "com/example/ample_gap/amplegap/model/Ranges" (some 0) with
  accessFlags := 33
  interfaces := #[]
  cf := some (fileOf pool9 8 #[] #[{ accessFlags := 2, nameIndex := 5, descriptorIndex := 6, attributes := #[] }, { accessFlags := 9, nameIndex := 35, descriptorIndex := 12, attributes := #[] }, { accessFlags := 9, nameIndex := 37, descriptorIndex := 12, attributes := #[] }, { accessFlags := 9, nameIndex := 11, descriptorIndex := 12, attributes := #[] }] 33 2 #[] #[])
  fields := #[]
  methods := #[k9m0, k9m1, k9m2, k9m3]
  instanceTypes := #[]
  staticTypes := #[]
  resolved := Array.replicate 60 none
  statics := none }

def pool10 : Array CpInfo := pool [(2, .class_ 4), (1, u "java/lang/Object"), (0, u "<init>"), (0, u "()V"), (1, .class_ 10), (1, u "java/lang/Number"), (2, .class_ 14), (0, u "java/io/Serializable"), (0, u "serialVersionUID"), (0, u "J")] 20

def k10m0 : Method := { name := "<init>", desc := "()V", sig := { parameters := [], returnType := none }, accessFlags := 1, code := none }
/-- java/lang/Number -/
def k10 : Class := { plain "java/lang/Number" (some 0) with
  accessFlags := 1057
  interfaces := #[3]
  cf := some (fileOf pool10 8 #[] #[{ accessFlags := 1, nameIndex := 5, descriptorIndex := 6, attributes := #[] }] 1057 2 #[13] #[{ accessFlags := 26, nameIndex := 15, descriptorIndex := 16, attributes := #[] }])
  fields := #[{ name := "serialVersionUID", type := .long, accessFlags := 26, slot := 0, constantValue := 0 }]
  methods := #[k10m0]
  instanceTypes := #[]
  staticTypes := #[.long]
  resolved := Array.replicate 37 none
  statics := none }

def pool11 : Array CpInfo := pool [(1, .class_ 2), (0, u "java/lang/Double"), (10, u "isFinite"), (0, u "(D)Z"), (8, .class_ 25), (1, u "java/lang/Math"), (12, .methodref 23 39), (0, .nameAndType 40 41), (0, u "abs"), (0, u "(D)D"), (69, .double 9218868437227405311), (2, .class_ 116), (1, u "java/lang/Number"), (3, u "value"), (0, u "D"), (51, u "TYPE"), (0, u "Ljava/lang/Class;"), (0, .class_ 176), (0, u "java/lang/Comparable"), (0, .class_ 178), (0, u "java/lang/constant/Constable"), (0, .class_ 180), (0, u "java/lang/constant/ConstantDesc"), (0, u "POSITIVE_INFINITY"), (3, u "NEGATIVE_INFINITY"), (2, u "NaN"), (2, u "MAX_VALUE"), (0, u "MIN_NORMAL"), (0, u "MIN_VALUE"), (2, u "SIZE"), (0, u "I"), (1, u "PRECISION"), (1, u "MAX_EXPONENT"), (1, u "MIN_EXPONENT"), (1, u "BYTES"), (3, u "serialVersionUID"), (0, u "J")] 79

def k11c0 : Code := { maxStack := 4, maxLocals := 2, code := jdk_117_method_8_code, exceptionTable := #[], attributes := #[] }
def k11m0 : Method := { name := "isFinite", desc := "(D)Z", sig := { parameters := [.double], returnType := some .boolean }, accessFlags := 9, code := some k11c0 }
/-- java/lang/Double -/
def k11 : Class := { plain "java/lang/Double" (some 10) with
  accessFlags := 49
  interfaces := #[4, 6, 7]
  cf := some (fileOf pool11 1 #[] #[{ accessFlags := 9, nameIndex := 13, descriptorIndex := 14, attributes := #[] }] 49 114 #[175, 177, 179] #[{ accessFlags := 25, nameIndex := 181, descriptorIndex := 121, attributes := #[] }, { accessFlags := 25, nameIndex := 185, descriptorIndex := 121, attributes := #[] }, { accessFlags := 25, nameIndex := 188, descriptorIndex := 121, attributes := #[] }, { accessFlags := 25, nameIndex := 191, descriptorIndex := 121, attributes := #[] }, { accessFlags := 25, nameIndex := 192, descriptorIndex := 121, attributes := #[] }, { accessFlags := 25, nameIndex := 193, descriptorIndex := 121, attributes := #[] }, { accessFlags := 25, nameIndex := 196, descriptorIndex := 197, attributes := #[] }, { accessFlags := 25, nameIndex := 199, descriptorIndex := 197, attributes := #[] }, { accessFlags := 25, nameIndex := 201, descriptorIndex := 197, attributes := #[] }, { accessFlags := 25, nameIndex := 203, descriptorIndex := 197, attributes := #[] }, { accessFlags := 25, nameIndex := 205, descriptorIndex := 197, attributes := #[] }, { accessFlags := 25, nameIndex := 173, descriptorIndex := 174, attributes := #[] }, { accessFlags := 18, nameIndex := 120, descriptorIndex := 121, attributes := #[] }, { accessFlags := 26, nameIndex := 209, descriptorIndex := 210, attributes := #[] }])
  fields := #[{ name := "POSITIVE_INFINITY", type := .double, accessFlags := 25, slot := 0, constantValue := 0 }, { name := "NEGATIVE_INFINITY", type := .double, accessFlags := 25, slot := 1, constantValue := 0 }, { name := "NaN", type := .double, accessFlags := 25, slot := 2, constantValue := 0 }, { name := "MAX_VALUE", type := .double, accessFlags := 25, slot := 3, constantValue := 0 }, { name := "MIN_NORMAL", type := .double, accessFlags := 25, slot := 4, constantValue := 0 }, { name := "MIN_VALUE", type := .double, accessFlags := 25, slot := 5, constantValue := 0 }, { name := "SIZE", type := .int, accessFlags := 25, slot := 6, constantValue := 0 }, { name := "PRECISION", type := .int, accessFlags := 25, slot := 7, constantValue := 0 }, { name := "MAX_EXPONENT", type := .int, accessFlags := 25, slot := 8, constantValue := 0 }, { name := "MIN_EXPONENT", type := .int, accessFlags := 25, slot := 9, constantValue := 0 }, { name := "BYTES", type := .int, accessFlags := 25, slot := 10, constantValue := 0 }, { name := "TYPE", type := (.object "java/lang/Class"), accessFlags := 25, slot := 11, constantValue := 0 }, { name := "value", type := .double, accessFlags := 18, slot := 0, constantValue := 0 }, { name := "serialVersionUID", type := .long, accessFlags := 26, slot := 12, constantValue := 0 }]
  methods := #[k11m0]
  instanceTypes := #[.double]
  staticTypes := #[.double, .double, .double, .double, .double, .double, .int, .int, .int, .int, .int, (.object "java/lang/Class"), .long]
  resolved := Array.replicate 290 none
  statics := none }

def pool12 : Array CpInfo := pool [(1, .class_ 2), (0, u "java/lang/Math"), (1, .class_ 6), (1, u "java/lang/Object"), (0, u "<init>"), (0, u "()V"), (5, u "(D)D"), (83, .class_ 100), (1, u "java/lang/Math$RandomNumberGeneratorHolder"), (23, u "abs"), (47, u "negativeZeroFloatBits"), (0, u "J"), (2, u "negativeZeroDoubleBits"), (68, u "$assertionsDisabled"), (0, u "Z"), (91, u "twoToTheDoubleScaleDown"), (0, u "D"), (4, u "twoToTheDoubleScaleUp"), (9, u "E"), (3, u "PI"), (2, u "TAU"), (2, u "DEGREES_TO_RADIANS"), (0, u "RADIANS_TO_DEGREES")] 94

def k12m0 : Method := { name := "<init>", desc := "()V", sig := { parameters := [], returnType := none }, accessFlags := 2, code := none }
def k12c1 : Code := { maxStack := 4, maxLocals := 2, code := jdk_29_method_64_code, exceptionTable := #[], attributes := #[] }
def k12m1 : Method := { name := "abs", desc := "(D)D", sig := { parameters := [.double], returnType := some .double }, accessFlags := 9, code := some k12c1 }
/-- java/lang/Math -/
def k12 : Class := { plain "java/lang/Math" (some 0) with
  accessFlags := 49
  interfaces := #[]
  cf := some (fileOf pool12 1 #[.nestMembers #[98]] #[{ accessFlags := 2, nameIndex := 7, descriptorIndex := 8, attributes := #[] }, { accessFlags := 9, nameIndex := 124, descriptorIndex := 14, attributes := #[] }] 49 4 #[] #[{ accessFlags := 25, nameIndex := 354, descriptorIndex := 339, attributes := #[] }, { accessFlags := 25, nameIndex := 358, descriptorIndex := 339, attributes := #[] }, { accessFlags := 25, nameIndex := 361, descriptorIndex := 339, attributes := #[] }, { accessFlags := 26, nameIndex := 364, descriptorIndex := 339, attributes := #[] }, { accessFlags := 26, nameIndex := 365, descriptorIndex := 339, attributes := #[] }, { accessFlags := 26, nameIndex := 172, descriptorIndex := 173, attributes := #[] }, { accessFlags := 26, nameIndex := 176, descriptorIndex := 173, attributes := #[] }, { accessFlags := 8, nameIndex := 344, descriptorIndex := 339, attributes := #[] }, { accessFlags := 8, nameIndex := 338, descriptorIndex := 339, attributes := #[] }, { accessFlags := 4120, nameIndex := 245, descriptorIndex := 246, attributes := #[] }])
  fields := #[{ name := "E", type := .double, accessFlags := 25, slot := 0, constantValue := 0 }, { name := "PI", type := .double, accessFlags := 25, slot := 1, constantValue := 0 }, { name := "TAU", type := .double, accessFlags := 25, slot := 2, constantValue := 0 }, { name := "DEGREES_TO_RADIANS", type := .double, accessFlags := 26, slot := 3, constantValue := 0 }, { name := "RADIANS_TO_DEGREES", type := .double, accessFlags := 26, slot := 4, constantValue := 0 }, { name := "negativeZeroFloatBits", type := .long, accessFlags := 26, slot := 5, constantValue := 0 }, { name := "negativeZeroDoubleBits", type := .long, accessFlags := 26, slot := 6, constantValue := 0 }, { name := "twoToTheDoubleScaleUp", type := .double, accessFlags := 8, slot := 7, constantValue := 0 }, { name := "twoToTheDoubleScaleDown", type := .double, accessFlags := 8, slot := 8, constantValue := 0 }, { name := "$assertionsDisabled", type := .boolean, accessFlags := 4120, slot := 9, constantValue := 0 }]
  methods := #[k12m0, k12m1]
  instanceTypes := #[]
  staticTypes := #[.double, .double, .double, .double, .double, .long, .long, .double, .double, .boolean]
  resolved := Array.replicate 460 none
  statics := none }

def pool13 : Array CpInfo := pool [(1, .methodref 2 3), (0, .class_ 4), (0, .nameAndType 5 6), (0, u "java/lang/Object"), (0, u "<init>"), (0, u "()V"), (0, .string 8), (0, u "on-ramp start"), (0, .methodref 10 11), (0, .class_ 12), (0, .nameAndType 13 14), (0, u "com/example/ample_gap/amplegap/model/Ranges"), (0, u "requireNonNegative"), (0, u "(Ljava/lang/String;D)D"), (0, .string 16), (0, u "on-ramp end"), (0, .methodref 10 18), (0, .nameAndType 19 14), (0, u "requireFinite"), (9, .fieldref 30 31), (0, .class_ 32), (0, .nameAndType 33 34), (0, u "com/example/ample_gap/amplegap/simulation/OnRamp"), (0, u "start"), (0, u "D"), (0, .fieldref 30 36), (0, .nameAndType 37 34), (0, u "end"), (0, u "(DD)V"), (3, u "()D")] 17

def k13c0 : Code := { maxStack := 6, maxLocals := 5, code := prog_45_method_1_code, exceptionTable := #[], attributes := #[] }
def k13m0 : Method := { name := "<init>", desc := "(DD)V", sig := { parameters := [.double, .double], returnType := none }, accessFlags := 1, code := some k13c0 }
def k13c1 : Code := { maxStack := 2, maxLocals := 1, code := prog_45_method_3_code, exceptionTable := #[], attributes := #[] }
def k13m1 : Method := { name := "end", desc := "()D", sig := { parameters := [], returnType := some .double }, accessFlags := 1, code := some k13c1 }
/-- com/example/ample_gap/amplegap/simulation/OnRamp -/
def k13 : Class := { plain "com/example/ample_gap/amplegap/simulation/OnRamp" (some 0) with
  accessFlags := 33
  interfaces := #[]
  cf := some (fileOf pool13 30 #[] #[{ accessFlags := 1, nameIndex := 5, descriptorIndex := 38, attributes := #[] }, { accessFlags := 1, nameIndex := 37, descriptorIndex := 42, attributes := #[] }] 33 2 #[] #[{ accessFlags := 18, nameIndex := 33, descriptorIndex := 34, attributes := #[] }, { accessFlags := 18, nameIndex := 37, descriptorIndex := 34, attributes := #[] }])
  fields := #[{ name := "start", type := .double, accessFlags := 18, slot := 0, constantValue := 0 }, { name := "end", type := .double, accessFlags := 18, slot := 1, constantValue := 0 }]
  methods := #[k13m0, k13m1]
  instanceTypes := #[.double, .double]
  staticTypes := #[]
  resolved := Array.replicate 60 none
  statics := none }

def pool14 : Array CpInfo := pool [(2, .class_ 4), (1, u "java/lang/Object"), (0, u "<init>"), (0, u "()V"), (35, .class_ 44), (1, u "java/util/Objects"), (0, u "requireNonNull"), (48, u "(Ljava/lang/Object;Ljava/lang/String;)Ljava/lang/Object;")] 89

def k14m0 : Method := { name := "<init>", desc := "()V", sig := { parameters := [], returnType := none }, accessFlags := 2, code := none }
def k14c1 : Code := { maxStack := 3, maxLocals := 2, code := jdk_31_method_11_code, exceptionTable := #[], attributes := #[] }
def k14m1 : Method := { name := "requireNonNull", desc := "(Ljava/lang/Object;Ljava/lang/String;)Ljava/lang/Object;", sig := { parameters := [(.object "java/lang/Object"), (.object "java/lang/String")], returnType := some (.object "java/lang/Object") }, accessFlags := 9, code := some k14c1 }
/-- java/util/Objects -/
def k14 : Class := { plain "java/util/Objects" (some 0) with
  accessFlags := 49
  interfaces := #[]
  cf := some (fileOf pool14 42 #[] #[{ accessFlags := 2, nameIndex := 5, descriptorIndex := 6, attributes := #[] }, { accessFlags := 9, nameIndex := 45, descriptorIndex := 94, attributes := #[] }] 49 2 #[] #[])
  fields := #[]
  methods := #[k14m0, k14m1]
  instanceTypes := #[]
  staticTypes := #[]
  resolved := Array.replicate 184 none
  statics := none }

def pool15 : Array CpInfo := pool [(1, u "java/lang/Cloneable"), (0, .class_ 1), (0, u "java/lang/Object"), (0, .class_ 3)] 3

/-- java/lang/Cloneable -/
def k15 : Class := { plain "java/lang/Cloneable" (some 0) with
  accessFlags := 1537
  interfaces := #[]
  cf := some (fileOf pool15 2 #[] #[] 1537 4 #[] #[])
  fields := #[]
  methods := #[]
  instanceTypes := #[]
  staticTypes := #[]
  resolved := Array.replicate 8 none
  statics := none }

/-- the primitive byte -/
def k16 : Class := { plain "byte" none with kind := .primitive 'B', accessFlags := 0x411 }
/-- [B -/
def k17 : Class := { plain "[B" (some 0) with kind := .array 16 .byte, interfaces := #[15, 3], accessFlags := 1041 }

/-- the primitive int -/
def k18 : Class := { plain "int" none with kind := .primitive 'I', accessFlags := 0x411 }
/-- [I -/
def k19 : Class := { plain "[I" (some 0) with kind := .array 18 .int, interfaces := #[15, 3], accessFlags := 1041 }

def heap : Heap := #[]
def classes : Array Class := #[k0, k1, k2, k3, k4, k5, k6, k7, k8, k9, k10, k11, k12, k13, k14, k15, k16, k17, k18, k19]
def interned : List (Array UInt16 × Addr) := []
def slotsUsed : Nat := 0
def theMethod : MethodId := ⟨1, 1⟩
def args0 : Array Value := #[.int 5, .int 3, .int 7, .int 1]
def aboutOver (below : List Frame) : State where
  vm := { classes := classes, interned := interned.toArray }
  heap := heap
  slotsUsed := slotsUsed
  threads := #[{ frames := .invoking theMethod args0 :: below }]
def below0 : List Frame := [.native { method := ⟨0, 0⟩, args := #[] }]
def about1 : State := aboutOver below0
def p0 : Program := .bare "" "" ""
def e0 : Env := launch0.env 0 0 0
theorem w_frames : about1.frames = Frame.invoking theMethod args0 :: below0 := rfl
set_option maxRecDepth 65536 in
theorem w_args : argsFit about1.vm theMethod args0 = true := by decide +kernel
set_option maxRecDepth 65536 in
theorem w_heap : heapFits about1 = true := by decide +kernel
set_option maxRecDepth 65536 in
theorem w_runnable : about1.curStatus? = some .runnable := by decide +kernel
set_option maxRecDepth 65536 in
theorem w_alone : about1.alone = true := by decide +kernel
set_option maxRecDepth 65536 in
theorem w_named : about1.methodNamed? x = some theMethod := by decide +kernel
set_option maxRecDepth 65536 in
theorem w_hears : about1.hears theMethod below0 = true := by decide +kernel
set_option maxRecDepth 65536 in
theorem w_ripe : about1.ripe theMethod args0 below0 = true := by decide +kernel
theorem w_running : about1.status = .running := rfl
set_option maxRecDepth 65536 in
theorem w_room : about1.hasRoom e0.platform room_1 = true :=
  launch0.hasRoom_least _ room_1 (by decide +kernel) (by decide +kernel) (by decide +kernel) (by decide +kernel) (by decide +kernel) (by decide +kernel)
theorem allAtoms_all (ts : List Jvm.Cond) (a : Array Jvm.Value) (st : Jvm.State) : (allAtoms ts).before a st = ts.all (fun c => c.before a st) := by
  induction ts with
  | nil => rfl
  | cons c t ih =>
    show (Jvm.Cond.and c (allAtoms t)).before a st = _
    rw [Jvm.Cond.before_and, ih, List.all_cons]
def words1 : List Jvm.Cond := Jvm.Cond.code x code maxLocals ret :: tables_1
/-- a 'code' word, met by the world's own term for the bytes: nothing is compared byte by byte -/
theorem code_word {y : MethodName} {bytes : ByteArray} {mx : Nat} {rt : Option FieldType} {a : Array Value} {s : State} {m : MethodId} {meth : Method} {c : Code} (h1 : s.methodNamed? y = some m) (h2 : s.vm.method? m = some meth) (h3 : meth.code = some c) (h4 : c.code = bytes)
    (h5 : (c.maxLocals == mx && c.exceptionTable.isEmpty && decide (c.maxStack ≤ mostOperands) && decide (meth.sig.returnType = rt) && !meth.locks && decide (parseMethodDescriptor y.desc = some meth.sig)) = true) : (Jvm.Cond.code y bytes mx rt).before a s = true := by
  simp only [Bool.and_eq_true, beq_iff_eq, Bool.not_eq_true', decide_eq_true_eq] at h5
  obtain ⟨⟨⟨⟨⟨g1, g2⟩, g3⟩, g4⟩, g5⟩, g6⟩ := h5
  simp [Cond.before, Cond.holds, Cond.value, h1, h2, h3, h4, g1, g2, g3, g4, g5, g6]
def isCode : Jvm.Cond → Bool
  | .code _ _ _ _ => true
  | _ => false
theorem all_split {L : List Jvm.Cond} {P : Jvm.Cond → Bool} (h1 : L.all (fun c => isCode c || P c) = true) (h2 : ∀ c ∈ L.filter isCode, P c = true) : L.all P = true := by
  refine List.all_eq_true.mpr fun c hc => ?_
  have h := List.all_eq_true.mp h1 c hc
  rcases Bool.eq_false_or_eq_true (isCode c) with hi | hi
  · exact h2 c (List.mem_filter.mpr ⟨hc, hi⟩)
  · simpa [hi] using h
set_option maxRecDepth 65536 in
theorem w_c0 : (Jvm.Cond.code x code maxLocals ret).before args0 about1 = true := code_word (m := ⟨1, 1⟩) (meth := k1m1) (c := k1c1) (by decide +kernel) rfl rfl rfl (by decide +kernel)
set_option maxRecDepth 65536 in
theorem w_c1 : (Jvm.Cond.code ({ cls := "com/example/ample_gap/amplegap/simulation/Road", name := "<init>", desc := "(D)V" } : Jvm.MethodName) prog_49_method_1_code (3 : Nat) (Option.none : Option Jvm.ClassFile.FieldType)).before args0 about1 = true := code_word (m := ⟨2, 0⟩) (meth := k2m0) (c := k2c0) (by decide +kernel) rfl rfl rfl (by decide +kernel)
set_option maxRecDepth 65536 in
theorem w_c2 : (Jvm.Cond.code ({ cls := "com/example/ample_gap/amplegap/simulation/Road", name := "<init>", desc := "(DIZ)V" } : Jvm.MethodName) prog_49_method_3_code (5 : Nat) (Option.none : Option Jvm.ClassFile.FieldType)).before args0 about1 = true := code_word (m := ⟨2, 1⟩) (meth := k2m1) (c := k2c1) (by decide +kernel) rfl rfl rfl (by decide +kernel)
set_option maxRecDepth 65536 in
theorem w_c3 : (Jvm.Cond.code ({ cls := "java/lang/Object", name := "<init>", desc := "()V" } : Jvm.MethodName) object_method_1_code (1 : Nat) (Option.none : Option Jvm.ClassFile.FieldType)).before args0 about1 = true := code_word (m := ⟨0, 0⟩) (meth := k0m0) (c := k0c0) (by decide +kernel) rfl rfl rfl (by decide +kernel)
set_option maxRecDepth 65536 in
theorem w_c4 : (Jvm.Cond.code ({ cls := "com/example/ample_gap/amplegap/model/Ranges", name := "requirePositive", desc := "(Ljava/lang/String;D)D" } : Jvm.MethodName) prog_30_method_2_code (3 : Nat) (Option.some Jvm.ClassFile.FieldType.double)).before args0 about1 = true := code_word (m := ⟨9, 1⟩) (meth := k9m1) (c := k9c1) (by decide +kernel) rfl rfl rfl (by decide +kernel)
set_option maxRecDepth 65536 in
theorem w_c5 : (Jvm.Cond.code ({ cls := "com/example/ample_gap/amplegap/model/Ranges", name := "requireFinite", desc := "(Ljava/lang/String;D)D" } : Jvm.MethodName) prog_30_method_5_code (3 : Nat) (Option.some Jvm.ClassFile.FieldType.double)).before args0 about1 = true := code_word (m := ⟨9, 3⟩) (meth := k9m3) (c := k9c3) (by decide +kernel) rfl rfl rfl (by decide +kernel)
set_option maxRecDepth 65536 in
theorem w_c6 : (Jvm.Cond.code ({ cls := "java/lang/Double", name := "isFinite", desc := "(D)Z" } : Jvm.MethodName) jdk_117_method_8_code (2 : Nat) (Option.some Jvm.ClassFile.FieldType.boolean)).before args0 about1 = true := code_word (m := ⟨11, 0⟩) (meth := k11m0) (c := k11c0) (by decide +kernel) rfl rfl rfl (by decide +kernel)
set_option maxRecDepth 65536 in
theorem w_c7 : (Jvm.Cond.code ({ cls := "java/lang/Math", name := "abs", desc := "(D)D" } : Jvm.MethodName) jdk_29_method_64_code (2 : Nat) (Option.some Jvm.ClassFile.FieldType.double)).before args0 about1 = true := code_word (m := ⟨12, 1⟩) (meth := k12m1) (c := k12c1) (by decide +kernel) rfl rfl rfl (by decide +kernel)
set_option maxRecDepth 65536 in
theorem w_c8 : (Jvm.Cond.code ({ cls := "com/example/ample_gap/amplegap/simulation/OnRamp", name := "<init>", desc := "(DD)V" } : Jvm.MethodName) prog_45_method_1_code (5 : Nat) (Option.none : Option Jvm.ClassFile.FieldType)).before args0 about1 = true := code_word (m := ⟨13, 0⟩) (meth := k13m0) (c := k13c0) (by decide +kernel) rfl rfl rfl (by decide +kernel)
set_option maxRecDepth 65536 in
theorem w_c9 : (Jvm.Cond.code ({ cls := "com/example/ample_gap/amplegap/model/Ranges", name := "requireNonNegative", desc := "(Ljava/lang/String;D)D" } : Jvm.MethodName) prog_30_method_3_code (3 : Nat) (Option.some Jvm.ClassFile.FieldType.double)).before args0 about1 = true := code_word (m := ⟨9, 2⟩) (meth := k9m2) (c := k9c2) (by decide +kernel) rfl rfl rfl (by decide +kernel)
set_option maxRecDepth 65536 in
theorem w_c10 : (Jvm.Cond.code ({ cls := "com/example/ample_gap/amplegap/simulation/Road", name := "withOnRamp", desc := "(Lcom/example/ample_gap/amplegap/simulation/OnRamp;)Lcom/example/ample_gap/amplegap/simulation/Road;" } : Jvm.MethodName) prog_49_method_10_code (2 : Nat) (Option.some (Jvm.ClassFile.FieldType.object "com/example/ample_gap/amplegap/simulation/Road"))).before args0 about1 = true := code_word (m := ⟨2, 3⟩) (meth := k2m3) (c := k2c3) (by decide +kernel) rfl rfl rfl (by decide +kernel)
set_option maxRecDepth 65536 in
theorem w_c11 : (Jvm.Cond.code ({ cls := "java/util/Objects", name := "requireNonNull", desc := "(Ljava/lang/Object;Ljava/lang/String;)Ljava/lang/Object;" } : Jvm.MethodName) jdk_31_method_11_code (2 : Nat) (Option.some (Jvm.ClassFile.FieldType.object "java/lang/Object"))).before args0 about1 = true := code_word (m := ⟨14, 1⟩) (meth := k14m1) (c := k14c1) (by decide +kernel) rfl rfl rfl (by decide +kernel)
set_option maxRecDepth 65536 in
theorem w_c12 : (Jvm.Cond.code ({ cls := "com/example/ample_gap/amplegap/simulation/OnRamp", name := "end", desc := "()D" } : Jvm.MethodName) prog_45_method_3_code (1 : Nat) (Option.some Jvm.ClassFile.FieldType.double)).before args0 about1 = true := code_word (m := ⟨13, 1⟩) (meth := k13m1) (c := k13c1) (by decide +kernel) rfl rfl rfl (by decide +kernel)
set_option maxRecDepth 65536 in
theorem w_c13 : (Jvm.Cond.code ({ cls := "com/example/ample_gap/amplegap/simulation/Road", name := "<init>", desc := "(Lcom/example/ample_gap/amplegap/simulation/Road;Lcom/example/ample_gap/amplegap/simulation/OnRamp;)V" } : Jvm.MethodName) prog_49_method_4_code (3 : Nat) (Option.none : Option Jvm.ClassFile.FieldType)).before args0 about1 = true := code_word (m := ⟨2, 2⟩) (meth := k2m2) (c := k2c2) (by decide +kernel) rfl rfl rfl (by decide +kernel)
set_option maxRecDepth 65536 in
theorem w_c14 : (Jvm.Cond.code ({ cls := "com/example/ample_gap/amplegap/simulation/Road", name := "lowestLane", desc := "()I" } : Jvm.MethodName) prog_49_method_12_code (1 : Nat) (Option.some Jvm.ClassFile.FieldType.int)).before args0 about1 = true := code_word (m := ⟨2, 4⟩) (meth := k2m4) (c := k2c4) (by decide +kernel) rfl rfl rfl (by decide +kernel)
def codes1 : List Jvm.Cond := [Jvm.Cond.code x code maxLocals ret, Jvm.Cond.code ({ cls := "com/example/ample_gap/amplegap/simulation/Road", name := "<init>", desc := "(D)V" } : Jvm.MethodName) prog_49_method_1_code (3 : Nat) (Option.none : Option Jvm.ClassFile.FieldType), Jvm.Cond.code ({ cls := "com/example/ample_gap/amplegap/simulation/Road", name := "<init>", desc := "(DIZ)V" } : Jvm.MethodName) prog_49_method_3_code (5 : Nat) (Option.none : Option Jvm.ClassFile.FieldType), Jvm.Cond.code ({ cls := "java/lang/Object", name := "<init>", desc := "()V" } : Jvm.MethodName) object_method_1_code (1 : Nat) (Option.none : Option Jvm.ClassFile.FieldType), Jvm.Cond.code ({ cls := "com/example/ample_gap/amplegap/model/Ranges", name := "requirePositive", desc := "(Ljava/lang/String;D)D" } : Jvm.MethodName) prog_30_method_2_code (3 : Nat) (Option.some Jvm.ClassFile.FieldType.double), Jvm.Cond.code ({ cls := "com/example/ample_gap/amplegap/model/Ranges", name := "requireFinite", desc := "(Ljava/lang/String;D)D" } : Jvm.MethodName) prog_30_method_5_code (3 : Nat) (Option.some Jvm.ClassFile.FieldType.double), Jvm.Cond.code ({ cls := "java/lang/Double", name := "isFinite", desc := "(D)Z" } : Jvm.MethodName) jdk_117_method_8_code (2 : Nat) (Option.some Jvm.ClassFile.FieldType.boolean), Jvm.Cond.code ({ cls := "java/lang/Math", name := "abs", desc := "(D)D" } : Jvm.MethodName) jdk_29_method_64_code (2 : Nat) (Option.some Jvm.ClassFile.FieldType.double), Jvm.Cond.code ({ cls := "com/example/ample_gap/amplegap/simulation/OnRamp", name := "<init>", desc := "(DD)V" } : Jvm.MethodName) prog_45_method_1_code (5 : Nat) (Option.none : Option Jvm.ClassFile.FieldType), Jvm.Cond.code ({ cls := "com/example/ample_gap/amplegap/model/Ranges", name := "requireNonNegative", desc := "(Ljava/lang/String;D)D" } : Jvm.MethodName) prog_30_method_3_code (3 : Nat) (Option.some Jvm.ClassFile.FieldType.double), Jvm.Cond.code ({ cls := "com/example/ample_gap/amplegap/simulation/Road", name := "withOnRamp", desc := "(Lcom/example/ample_gap/amplegap/simulation/OnRamp;)Lcom/example/ample_gap/amplegap/simulation/Road;" } : Jvm.MethodName) prog_49_method_10_code (2 : Nat) (Option.some (Jvm.ClassFile.FieldType.object "com/example/ample_gap/amplegap/simulation/Road")), Jvm.Cond.code ({ cls := "java/util/Objects", name := "requireNonNull", desc := "(Ljava/lang/Object;Ljava/lang/String;)Ljava/lang/Object;" } : Jvm.MethodName) jdk_31_method_11_code (2 : Nat) (Option.some (Jvm.ClassFile.FieldType.object "java/lang/Object")), Jvm.Cond.code ({ cls := "com/example/ample_gap/amplegap/simulation/OnRamp", name := "end", desc := "()D" } : Jvm.MethodName) prog_45_method_3_code (1 : Nat) (Option.some Jvm.ClassFile.FieldType.double), Jvm.Cond.code ({ cls := "com/example/ample_gap/amplegap/simulation/Road", name := "<init>", desc := "(Lcom/example/ample_gap/amplegap/simulation/Road;Lcom/example/ample_gap/amplegap/simulation/OnRamp;)V" } : Jvm.MethodName) prog_49_method_4_code (3 : Nat) (Option.none : Option Jvm.ClassFile.FieldType), Jvm.Cond.code ({ cls := "com/example/ample_gap/amplegap/simulation/Road", name := "lowestLane", desc := "()I" } : Jvm.MethodName) prog_49_method_12_code (1 : Nat) (Option.some Jvm.ClassFile.FieldType.int)]
set_option maxRecDepth 65536 in
theorem codes_eq : words1.filter isCode = codes1 := rfl
theorem w_codes : ∀ c ∈ words1.filter isCode, c.before args0 about1 = true := by
  rw [codes_eq]
  intro c hc
  simp only [codes1, List.mem_cons, List.not_mem_nil, or_false] at hc
  rcases hc with rfl | rfl | rfl | rfl | rfl | rfl | rfl | rfl | rfl | rfl | rfl | rfl | rfl | rfl | rfl
  · exact w_c0
  · exact w_c1
  · exact w_c2
  · exact w_c3
  · exact w_c4
  · exact w_c5
  · exact w_c6
  · exact w_c7
  · exact w_c8
  · exact w_c9
  · exact w_c10
  · exact w_c11
  · exact w_c12
  · exact w_c13
  · exact w_c14
set_option maxRecDepth 65536 in
theorem w_t1 : (words1.take 24).all (fun c => isCode c || c.before args0 about1) = true := by decide +kernel
set_option maxRecDepth 65536 in
theorem w_t2 : ((words1.drop 24).take 24).all (fun c => isCode c || c.before args0 about1) = true := by decide +kernel
set_option maxRecDepth 65536 in
theorem w_t3 : (((words1.drop 24).drop 24).take 24).all (fun c => isCode c || c.before args0 about1) = true := by decide +kernel
set_option maxRecDepth 65536 in
theorem w_t4 : (((words1.drop 24).drop 24).drop 24).all (fun c => isCode c || c.before args0 about1) = true := by decide +kernel
theorem w_tables : (allAtoms (Jvm.Cond.code x code maxLocals ret :: tables_1)).before args0 about1 = true := by
  rw [allAtoms_all]
  show words1.all (fun c => c.before args0 about1) = true
  refine all_split ?_ w_codes
  rw [← List.take_append_drop 24 words1, List.all_append, w_t1, ← List.take_append_drop 24 (words1.drop 24), List.all_append, w_t2, ← List.take_append_drop 24 ((words1.drop 24).drop 24), List.all_append, w_t3, w_t4]
  rfl
set_option maxRecDepth 65536 in
theorem w_case : (Jvm.Cond.and given_1 narrow_1).before args0 about1 = true := by decide +kernel
theorem w_applies : (headSpec (Jvm.Cond.code x code maxLocals ret :: tables_1) room_1).applies x e0.platform about1 = true :=
  (Spec.applies_iff w_frames).mpr ⟨w_running, w_runnable, w_alone, w_named, w_hears, w_ripe, w_room, w_tables⟩
theorem atStart : AtStart classFile x code maxLocals ret World_1 tables_1 room_1 Calls_1 rest_1 Pre_1 launch0 p0 e0 about1 theMethod args0 below0 :=
  ⟨lists_1, trivial, launch0.admits_env _ _ _, launch0.least_env, fairChoices_fair.cas, fairChoices_fair.clock, w_frames, w_args, w_heap, w_applies, trivial, trivial, w_case⟩
end start1
theorem witness_1 : WitnessClaimed_1 := ⟨start1.p0, start1.e0, start1.about1, start1.theMethod, start1.args0, start1.below0, start1.atStart⟩
end Jvm.Pilot.@@N@@
