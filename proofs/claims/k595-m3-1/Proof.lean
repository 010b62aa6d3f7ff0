import JvmDerived
import JvmDerived.Pilot.@@N@@Statement
import JvmDerived.Pilot.@@N@@Code
set_option linter.unusedVariables false
set_option linter.unusedSimpArgs false
namespace Jvm.Pilot.@@N@@.Dyad
open Jvm Jvm.FP Jvm.FP.Core
/-- the exponent moved up by k -/
def sh (k : Int) : Datum → Datum
  | .nan => .nan
  | .inf s => .inf s
  | .fin s c q => .fin s c (q + k)
theorem sh_prod (k l : Int) (x y : Datum) : exactProduct (sh k x) (sh l y) = sh (k + l) (exactProduct x y) := by
  cases x <;> cases y <;> simp only [sh, exactProduct]
  · split <;> rfl
  · split <;> rfl
  · rw [show ∀ q r : Int, q + k + (r + l) = q + r + (k + l) from fun q r => by omega]
theorem inUnits_sh (c : Nat) (q e k : Int) : inUnits c (q + k) (e + k) = inUnits c q e := by
  unfold inUnits; rw [show q + k - (e + k) = q - e by omega]
theorem min_sh (q r k : Int) : min (q + k) (r + k) = min q r + k := by omega
theorem sumUnits_sh (s : Bool) (c : Nat) (q : Int) (t : Bool) (d : Nat) (r e k : Int) : sumUnits s c (q + k) t d (r + k) (e + k) = sumUnits s c q t d r e := by
  unfold sumUnits; rw [inUnits_sh, inUnits_sh]
theorem sh_sum (k : Int) (x y : Datum) : exactSum (sh k x) (sh k y) = sh k (exactSum x y) := by
  cases x <;> cases y <;> simp only [sh, exactSum]
  · split <;> rfl
  · rw [min_sh, sumUnits_sh]
theorem sh_neg (k : Int) (x : Datum) : negate (sh k x) = sh k (negate x) := by
  cases x <;> rfl
theorem order_sh (k : Int) (x y : Datum) : order (sh k x) (sh k y) = order x y := by
  cases x <;> cases y <;> simp only [sh, order]
  rw [min_sh, inUnits_sh, inUnits_sh]
theorem sh_zero (x : Datum) : sh 0 x = x := by
  cases x <;> simp [sh]
/-- x is the number n / 2^k -/
def Dy (n k : Int) (x : UInt64) : Prop := Whole n (sh k (val64 x))
theorem Dy.fin {n k : Int} {x : UInt64} (h : Dy n k x) : ∃ s c q, val64 x = .fin s c q ∧ Whole n (.fin s c (q + k)) := by
  unfold Dy at h
  cases hx : val64 x with
  | nan => rw [hx] at h; exact h.elim
  | inf s => rw [hx] at h; exact h.elim
  | fin s c q => rw [hx] at h; exact ⟨s, c, q, rfl, h⟩
theorem Dy.ne_nan {n k : Int} {x : UInt64} (h : Dy n k x) : val64 x ≠ .nan := by
  obtain ⟨s, c, q, e, -⟩ := h.fin; rw [e]; exact Datum.noConfusion
theorem Dy.no {n k : Int} {x : UInt64} (h : Dy n k x) : Jvm.Free.Fl.NoNaN64 x := Jvm.Free.Fl.val64_no.mpr h.ne_nan
theorem whole_scale {n : Int} {s : Bool} {c : Nat} {a : Int} (j : Nat) : Whole n (.fin s c a) ↔ Whole (n * ((2 ^ j : Nat) : Int)) (.fin s c (a + j)) := by
  show signed s (c * 2 ^ a.toNat) = n * ((2 ^ (-a).toNat : Nat) : Int) ↔ signed s (c * 2 ^ (a + j).toNat) = n * ((2 ^ j : Nat) : Int) * ((2 ^ (-(a + j)).toNat : Nat) : Int)
  have e : (a + j).toNat + (-a).toNat = a.toNat + (j + (-(a + j)).toNat) := by omega
  have p : ((2 ^ (-a).toNat : Nat) : Int) ≠ 0 := by have := Nat.two_pow_pos (-a).toNat; omega
  have p2 : ((2 ^ j : Nat) : Int) ≠ 0 := by have := Nat.two_pow_pos j; omega
  have p3 : ((2 ^ (-(a + j)).toNat : Nat) : Int) ≠ 0 := by have := Nat.two_pow_pos (-(a + j)).toNat; omega
  rw [signed_mul, signed_mul]
  have e2 : ((2 ^ (a + j).toNat : Nat) : Int) * ((2 ^ (-a).toNat : Nat) : Int) = ((2 ^ a.toNat : Nat) : Int) * (((2 ^ j : Nat) : Int) * ((2 ^ (-(a + j)).toNat : Nat) : Int)) := by
    rw [← Int.natCast_mul, ← Int.natCast_mul, ← Int.natCast_mul, ← Nat.pow_add, ← Nat.pow_add, ← Nat.pow_add, e]
  generalize signed s c = v
  generalize ((2 ^ (a + j).toNat : Nat) : Int) = P at e2 ⊢
  generalize ((2 ^ (-a).toNat : Nat) : Int) = M at p e2 ⊢
  generalize ((2 ^ a.toNat : Nat) : Int) = A at e2 ⊢
  generalize ((2 ^ j : Nat) : Int) = J at p2 e2 ⊢
  generalize ((2 ^ (-(a + j)).toNat : Nat) : Int) = N at p3 e2 ⊢
  have q1 : v * P * M = v * A * (J * N) := by
    calc v * P * M = v * (P * M) := Int.mul_assoc _ _ _
      _ = v * (A * (J * N)) := by rw [e2]
      _ = v * A * (J * N) := (Int.mul_assoc _ _ _).symm
  have q2 : n * J * N * M = n * M * (J * N) := by simp only [Int.mul_assoc, Int.mul_comm, Int.mul_left_comm]
  constructor
  · intro h
    apply Int.eq_of_mul_eq_mul_right p
    rw [q1, h, q2]
  · intro h
    apply Int.eq_of_mul_eq_mul_right (Int.mul_ne_zero p2 p3)
    rw [← q1, h, q2]
theorem Dy.scale {n k : Int} {x : UInt64} (j : Nat) : Dy n k x ↔ Dy (n * ((2 ^ j : Nat) : Int)) (k + j) x := by
  unfold Dy
  cases val64 x with
  | nan => exact Iff.rfl
  | inf s => exact Iff.rfl
  | fin s c q =>
    show Whole _ (.fin s c (q + k)) ↔ Whole _ (.fin s c (q + (k + j)))
    rw [show q + (k + (j : Int)) = q + k + j by omega]
    exact whole_scale j
theorem Dy.cast {n m k : Int} {x : UInt64} (h : Dy n k x) (e : n = m) : Dy m k x := e ▸ h
theorem Dy.up {n m k l : Int} {x : UInt64} (h : Dy n k x) (j : Nat) (hl : k + j = l) (e : n * ((2 ^ j : Nat) : Int) = m) : Dy m l x := by subst hl e; exact (Dy.scale j).mp h
theorem Dy.down {n m k l : Int} {x : UInt64} (h : Dy n k x) (j : Nat) (hl : l + j = k) (e : m * ((2 ^ j : Nat) : Int) = n) : Dy m l x := by subst hl e; exact (Dy.scale j).mpr h
theorem Dy.i2d (a : Int32) : Dy a.toInt 0 (FP.i2d a) := by
  unfold Dy; rw [sh_zero]; exact i2d_int a
theorem Dy.l2d {a : Int64} (h : a.toInt.natAbs ≤ 2 ^ 53) : Dy a.toInt 0 (FP.l2d a) := by
  unfold Dy; rw [sh_zero]; exact l2d_int h
theorem Dy.lit {n : Int64} {x : UInt64} {m : Int} (h : x = FP.l2d n) (e : n.toInt = m) (b : m.natAbs ≤ 2 ^ 53) : Dy m 0 x := by
  subst h e; exact Dy.l2d b
theorem Dy.cmp {n m k : Int} {x y : UInt64} (hx : Dy n k x) (hy : Dy m k y) : FP.dcmp x y = some (compare n m) := by
  show order (val64 x) (val64 y) = _
  rw [← order_sh k]; exact order_whole hx hy
theorem compare_lt {n m : Int} (h : n < m) : compare n m = .lt := (compare_lt_iff n m).mpr h
theorem compare_eq {n m : Int} (h : n = m) : compare n m = .eq := (compare_eq_iff n m).mpr h
theorem compare_gt {n m : Int} (h : m < n) : compare n m = .gt := by
  rw [compare_swap_int, compare_lt h]; rfl
theorem Dy.lt {n m k : Int} {x y : UInt64} (hx : Dy n k x) (hy : Dy m k y) (h : n < m) (o : Jvm.ClassFile.CmpOp) : Op.cmpValue (FP.dcmp x y) o = -1 := by rw [hx.cmp hy, compare_lt h]; rfl
theorem Dy.eq {n m k : Int} {x y : UInt64} (hx : Dy n k x) (hy : Dy m k y) (h : n = m) (o : Jvm.ClassFile.CmpOp) : Op.cmpValue (FP.dcmp x y) o = 0 := by rw [hx.cmp hy, compare_eq h]; rfl
theorem Dy.gt {n m k : Int} {x y : UInt64} (hx : Dy n k x) (hy : Dy m k y) (h : m < n) (o : Jvm.ClassFile.CmpOp) : Op.cmpValue (FP.dcmp x y) o = 1 := by rw [hx.cmp hy, compare_gt h]; rfl
theorem signed_natAbs {n : Int} {s : Bool} (h : n ≠ 0 → s = decide (n < 0)) : signed s n.natAbs = n := by
  by_cases h0 : n = 0
  · subst h0; exact signed_zero s
  · rw [h h0]; unfold signed
    by_cases q : n < 0
    · simp [q]; omega
    · simp [q]; omega
/-- a number of 53 digits is held exactly -/
theorem round_dy {n k : Int} {d : Datum} (h : Whole n (sh k d)) (hn : n.natAbs < 2 ^ 53) (hk : -900 ≤ k ∧ k ≤ 1000) : Whole n (sh k (round b64 d)) := by
  cases d with
  | nan => exact h.elim
  | inf s => exact h.elim
  | fin s c q =>
    have h1 : Whole n (.fin s c (q + k)) := h
    have e : round b64 (.fin s c q) = round b64 (.fin s n.natAbs (-k)) := by
      show roundRatio b64 s c 1 q = roundRatio b64 s n.natAbs 1 (-k)
      refine roundRatio_congr (by decide) (by decide) ?_
      have := whole_natAbs h1
      rw [Nat.mul_one, Nat.mul_one, show q - -k = q + k by omega, show -k - q = -(q + k) by omega]
      exact this
    have hq : b64.qmin = -1074 := qmin_b64
    have hp : b64.p = 53 := rfl
    obtain ⟨c', q', e1, e2⟩ := round_exact good_b64 s (c := n.natAbs) (q := -k) (by rw [hp]; exact hn) (by rw [hq]; omega) (by rw [show b64.qmax = 971 by decide]; omega)
    rw [e, e1]
    have hf := round_fits good_b64 (.fin s n.natAbs (-k))
    rw [e1] at hf
    have hq' : -1074 ≤ q' := hq ▸ hf.2.1
    unfold inUnits at e2
    rw [hq] at e2
    show signed s (c' * 2 ^ (q' + k).toNat) = n * ((2 ^ (-(q' + k)).toNat : Nat) : Int)
    have key : c' * 2 ^ (q' + k).toNat = n.natAbs * 2 ^ (-(q' + k)).toNat := by
      have e3 : (q' + k).toNat + (-k - -1074).toNat = (q' - -1074).toNat + (-(q' + k)).toNat := by omega
      apply Nat.eq_of_mul_eq_mul_right (Nat.two_pow_pos (-k - -1074).toNat)
      rw [Nat.mul_assoc, ← Nat.pow_add, e3, Nat.pow_add, ← Nat.mul_assoc, e2]
      simp only [Nat.mul_assoc, Nat.mul_comm, Nat.mul_left_comm]
    rw [key, signed_mul, signed_natAbs (fun h0 => whole_sign h1 h0)]
theorem Dy.mul {n m k l : Int} {x y : UInt64} (hx : Dy n k x) (hy : Dy m l y) (hb : (n * m).natAbs < 2 ^ 53) (hk : -900 ≤ k + l ∧ k + l ≤ 1000) : Dy (n * m) (k + l) (FP.dmul x y) := by
  unfold Dy
  rw [show val64 (FP.dmul x y) = _ from val64_dmul x y]
  refine round_dy ?_ hb hk
  rw [← sh_prod]
  exact whole_product hx hy
theorem Dy.add {n m k : Int} {x y : UInt64} (hx : Dy n k x) (hy : Dy m k y) (hb : (n + m).natAbs < 2 ^ 53) (hk : -900 ≤ k ∧ k ≤ 1000) : Dy (n + m) k (FP.dadd x y) := by
  unfold Dy
  rw [show val64 (FP.dadd x y) = _ from val64_dadd x y]
  refine round_dy ?_ hb hk
  rw [← sh_sum]
  exact whole_sum hx hy
theorem Dy.sub {n m k : Int} {x y : UInt64} (hx : Dy n k x) (hy : Dy m k y) (hb : (n - m).natAbs < 2 ^ 53) (hk : -900 ≤ k ∧ k ≤ 1000) : Dy (n - m) k (FP.dsub x y) := by
  unfold Dy
  rw [show val64 (FP.dsub x y) = _ from val64_dsub x y]
  refine round_dy ?_ hb hk
  rw [← sh_sum, ← sh_neg, Int.sub_eq_add_neg]
  exact whole_sum hx (whole_negate hy)
/-- the quotient's rounding, by the values alone -/
theorem Dy.quot {n m k l : Int} {x y : UInt64} (hx : Dy n k x) (hy : Dy m l y) (hm : m ≠ 0) : ∃ s, val64 (FP.ddiv x y) = roundRatio b64 s n.natAbs m.natAbs (l - k) ∧ (n ≠ 0 → s = (decide (n < 0) != decide (m < 0))) := by
  obtain ⟨s, c, q, ex, wx⟩ := hx.fin
  obtain ⟨t, d, r, ey, wy⟩ := hy.fin
  have hd : d ≠ 0 := fun z => hm ((whole_zero wy).mp z)
  refine ⟨s != t, ?_, fun h0 => by rw [whole_sign wx h0, whole_sign wy hm]⟩
  rw [show val64 (FP.ddiv x y) = _ from val64_ddiv x y, ex, ey]
  simp only [quotient, if_neg hd]
  refine roundRatio_congr (Nat.pos_of_ne_zero hd) (by omega) ?_
  have e1 := whole_natAbs wx
  have e2 := whole_natAbs wy
  have e3 : (q - r - (l - k)).toNat + ((-(q + k)).toNat + (r + l).toNat) = (l - k - (q - r)).toNat + ((q + k).toNat + (-(r + l)).toNat) := by omega
  apply Nat.eq_of_mul_eq_mul_right (Nat.two_pow_pos ((-(q + k)).toNat + (r + l).toNat))
  rw [Nat.mul_assoc, ← Nat.pow_add, e3, Nat.pow_add, Nat.pow_add, Nat.pow_add]
  generalize 2 ^ (l - k - (q - r)).toNat = P
  generalize 2 ^ (q + k).toNat = A at *
  generalize 2 ^ (-(q + k)).toNat = A' at *
  generalize 2 ^ (r + l).toNat = B at *
  generalize 2 ^ (-(r + l)).toNat = B' at *
  calc c * m.natAbs * (P * (A * B')) = (c * A) * (m.natAbs * B') * P := by simp only [Nat.mul_assoc, Nat.mul_comm, Nat.mul_left_comm]
    _ = (n.natAbs * A') * (d * B) * P := by rw [e1, e2]
    _ = n.natAbs * d * P * (A' * B) := by simp only [Nat.mul_assoc, Nat.mul_comm, Nat.mul_left_comm]
theorem sgn_of_quot {n m j : Int} {a b c : Nat} (ha : 0 < a) (hb : 0 < b) (hm : m ≠ 0) (h : n * (a : Int) = j * m * (b : Int)) (hj : j ≠ 0) : (n ≠ 0) ∧ decide (j < 0) = (decide (n < 0) != decide (m < 0)) := by
  have hn : n ≠ 0 := by
    intro z; rw [z, Int.zero_mul] at h
    have := Int.mul_eq_zero.mp h.symm
    rcases this with q | q
    · rcases Int.mul_eq_zero.mp q with q | q
      · exact hj q
      · exact hm q
    · omega
  refine ⟨hn, ?_⟩
  have ha' : (0 : Int) < a := by omega
  have hb' : (0 : Int) < b := by omega
  rcases Int.lt_or_gt_of_ne hj with q | q <;> rcases Int.lt_or_gt_of_ne hm with r | r <;> rcases Int.lt_or_gt_of_ne hn with t | t
  all_goals first
    | (simp [q, r, t]; done)
    | (simp [q, r, t, Int.not_lt.mpr (Int.le_of_lt q), Int.not_lt.mpr (Int.le_of_lt r), Int.not_lt.mpr (Int.le_of_lt t)]; done)
    | (simp [q, r, t, Int.not_lt.mpr (Int.le_of_lt q), Int.not_lt.mpr (Int.le_of_lt r)]; done)
    | (simp [q, r, t, Int.not_lt.mpr (Int.le_of_lt q), Int.not_lt.mpr (Int.le_of_lt t)]; done)
    | (simp [q, r, t, Int.not_lt.mpr (Int.le_of_lt r), Int.not_lt.mpr (Int.le_of_lt t)]; done)
    | (simp [q, r, t, Int.not_lt.mpr (Int.le_of_lt q)]; done)
    | (simp [q, r, t, Int.not_lt.mpr (Int.le_of_lt r)]; done)
    | (simp [q, r, t, Int.not_lt.mpr (Int.le_of_lt t)]; done)
    | (exfalso
       have s1 : n * (a : Int) < 0 ∨ 0 < n * (a : Int) := by
         rcases Int.lt_or_gt_of_ne hn with t | t
         · exact Or.inl (Int.mul_neg_of_neg_of_pos t ha')
         · exact Or.inr (Int.mul_pos t ha')
       first
       | (have u := Int.mul_neg_of_neg_of_pos (Int.mul_neg_of_neg_of_pos q r) hb'; have v := Int.mul_pos t ha'; omega)
       | (have u := Int.mul_neg_of_neg_of_pos (Int.mul_neg_of_pos_of_neg q r) hb'; have v := Int.mul_pos t ha'; omega)
       | (have u := Int.mul_pos (Int.mul_pos q r) hb'; have v := Int.mul_neg_of_neg_of_pos t ha'; omega)
       | (have u := Int.mul_pos (Int.mul_pos_of_neg_of_neg q r) hb'; have v := Int.mul_neg_of_neg_of_pos t ha'; omega))
/-- an exact quotient: x / y = j / 2^i -/
theorem Dy.div {n m j k l i : Int} {x y : UInt64} (u v : Nat) (hx : Dy n k x) (hy : Dy m l y) (hm : m ≠ 0) (huv : (u : Int) - v = l + i - k) (hv : n * ((2 ^ u : Nat) : Int) = j * m * ((2 ^ v : Nat) : Int)) (hj : j.natAbs < 2 ^ 53) (hi : -900 ≤ i ∧ i ≤ 1000) : Dy j i (FP.ddiv x y) := by
  obtain ⟨s, e, hs⟩ := hx.quot hy hm
  unfold Dy
  rw [e]
  have hva : n.natAbs * 2 ^ u = j.natAbs * m.natAbs * 2 ^ v := by
    have := congrArg Int.natAbs hv
    rw [Int.natAbs_mul, Int.natAbs_mul, Int.natAbs_mul, Int.natAbs_natCast, Int.natAbs_natCast] at this
    exact this
  have e2 : roundRatio b64 s n.natAbs m.natAbs (l - k) = round b64 (.fin s j.natAbs (-i)) := by
    show _ = roundRatio b64 s j.natAbs 1 (-i)
    refine roundRatio_congr (by omega) (by decide) ?_
    rw [Nat.mul_one]
    have e3 : (l - k - -i).toNat + v = (-i - (l - k)).toNat + u := by omega
    apply Nat.eq_of_mul_eq_mul_right (Nat.two_pow_pos v)
    rw [Nat.mul_assoc, ← Nat.pow_add, e3, Nat.pow_add]
    generalize 2 ^ (-i - (l - k)).toNat = W
    calc n.natAbs * (W * 2 ^ u) = (n.natAbs * 2 ^ u) * W := by simp only [Nat.mul_assoc, Nat.mul_comm, Nat.mul_left_comm]
      _ = j.natAbs * m.natAbs * 2 ^ v * W := by rw [hva]
      _ = j.natAbs * m.natAbs * W * 2 ^ v := by simp only [Nat.mul_assoc, Nat.mul_comm, Nat.mul_left_comm]
  rw [e2]
  refine round_dy ?_ hj hi
  show signed s (j.natAbs * 2 ^ (-i + i).toNat) = j * ((2 ^ (-(-i + i)).toNat : Nat) : Int)
  rw [show (-i + i) = 0 by omega]
  simp only [Int.toNat_zero, Nat.pow_zero, Nat.mul_one, Int.neg_zero, Int.natCast_one, Int.mul_one]
  refine signed_natAbs fun h0 => ?_
  obtain ⟨hn, hsg⟩ := sgn_of_quot (c := 0) (Nat.two_pow_pos u) (Nat.two_pow_pos v) hm hv h0
  rw [hs hn, hsg]
end Jvm.Pilot.@@N@@.Dyad
namespace Jvm.Pilot.@@N@@.Dyad
open Jvm Jvm.FP Jvm.FP.Core
theorem Dy.of_fin {x : UInt64} {s : Bool} {c : Nat} {q : Int} (h : val64 x = .fin s c q) : Dy (signed s c) (-q) x := by
  unfold Dy; rw [h]
  show signed s (c * 2 ^ (q + -q).toNat) = signed s c * ((2 ^ (-(q + -q)).toNat : Nat) : Int)
  rw [show q + -q = 0 by omega]; simp
theorem Dy.of_zero {x : UInt64} {s : Bool} {q : Int} (h : val64 x = .fin s 0 q) (k : Int) : Dy 0 k x := by
  unfold Dy; rw [h]
  show signed s (0 * 2 ^ (q + k).toNat) = 0 * ((2 ^ (-(q + k)).toNat : Nat) : Int)
  rw [Nat.zero_mul, signed_zero, Int.zero_mul]
theorem l2d_form (v : Int64) (h : v.toInt ≠ 0) : ∃ s c q, val64 (FP.l2d v) = .fin s c q ∧ c ≠ 0 ∧ c < 2 ^ 53 ∧ -60 ≤ q ∧ q ≤ 20 := by
  have hm := l2d_mag v
  have hb := (l2d_big h).1
  have hE : fieldE b64 (FP.l2d v).toNat = ((FP.l2d v).toNat % 2 ^ 63) / 2 ^ 52 := by rw [fieldE_mag, mag_toNat64, tails_b64]
  have hE1 : 1023 ≤ fieldE b64 (FP.l2d v).toNat := by rw [hE]; exact (Nat.le_div_iff_mul_le (by decide)).mpr hb
  have hE2 : fieldE b64 (FP.l2d v).toNat < 1088 := by rw [hE]; exact (Nat.div_lt_iff_lt_mul (by decide)).mpr hm
  have hx : b64.exps - 1 = 2047 := exps_b64
  have ht : fieldT b64 (FP.l2d v).toNat < b64.tails := fieldT_lt _ _
  rw [tails_b64] at ht
  refine ⟨fieldS b64 (FP.l2d v).toNat, b64.tails + fieldT b64 (FP.l2d v).toNat, b64.qmin + ((fieldE b64 (FP.l2d v).toNat : Int) - 1), ?_, ?_, ?_, ?_, ?_⟩
  · show decode b64 (FP.l2d v).toNat = _
    unfold decode
    rw [if_neg (by omega), if_neg (by omega)]
  · rw [tails_b64]; omega
  · rw [tails_b64]; omega
  · rw [qmin_b64]; omega
  · rw [qmin_b64]; omega
/-- equal quotients of equal values -/
theorem quot_eq {n m k l n' m' k' l' : Int} {x y x' y' : UInt64} (hx : Dy n k x) (hy : Dy m l y) (hx' : Dy n' k' x') (hy' : Dy m' l' y') (hm : m ≠ 0) (en : n' = n) (em : m' = m) (ek : l' - k' = l - k) (o : Jvm.ClassFile.CmpOp) : Op.cmpValue (FP.dcmp (FP.ddiv x y) (FP.ddiv x' y')) o = 0 := by
  subst en em
  obtain ⟨s, e, hs⟩ := hx.quot hy hm
  obtain ⟨s', e', hs'⟩ := hx'.quot hy' hm
  by_cases h0 : n' = 0
  · subst h0
    have z : ∀ (s : Bool) (B : Nat) (q : Int), roundRatio b64 s (0 : Int).natAbs B q = .fin s 0 b64.qmin := fun s B q => by unfold roundRatio; exact if_pos rfl
    rw [z] at e e'
    exact (Dy.of_zero e 0).eq (Dy.of_zero e' 0) rfl o
  · have : val64 (FP.ddiv x y) = val64 (FP.ddiv x' y') := by rw [e, e', hs h0, hs' h0, ek]
    have e2 : FP.dcmp (FP.ddiv x y) (FP.ddiv x' y') = some .eq := by
      show order (val64 _) (val64 _) = _
      rw [← this]; exact order_self (by rw [e]; exact roundRatio_ne_nan _ _ _ _ _)
    rw [e2]; rfl
theorem quot_no {n m k l : Int} {x y : UInt64} (hx : Dy n k x) (hy : Dy m l y) (hm : m ≠ 0) : Jvm.Free.Fl.NoNaN64 (FP.ddiv x y) := by
  obtain ⟨s, e, -⟩ := hx.quot hy hm
  exact Jvm.Free.Fl.val64_no.mpr (by rw [e]; exact roundRatio_ne_nan _ _ _ _ _)
theorem dy0 : Dy 0 0 FP.dconst0 := Dy.lit (n := 0) (by decide +kernel) rfl (by decide)
theorem dy1 : Dy 1 0 FP.dconst1 := Dy.lit (n := 1) (by decide +kernel) rfl (by decide)
theorem dy4 : Dy 4 0 (4616189618054758400 : UInt64) := Dy.lit (n := 4) (by decide +kernel) rfl (by decide)
theorem dy8 : Dy 8 0 (4620693217682128896 : UInt64) := Dy.lit (n := 8) (by decide +kernel) rfl (by decide)
theorem dy1024 : Dy 1024 0 (4652218415073722368 : UInt64) := Dy.lit (n := 1024) (by decide +kernel) rfl (by decide)
/-- a whole number over a power of two -/
theorem div8 {x : UInt64} {n : Int} (h : Dy n 0 x) (hn : n.natAbs < 2 ^ 53) : Dy n 3 (FP.ddiv x (4620693217682128896 : UInt64)) := h.div 3 0 dy8 (by decide) (by decide) (by omega) hn (by decide)
theorem div4 {x : UInt64} {n : Int} (h : Dy n 0 x) (hn : n.natAbs < 2 ^ 53) : Dy n 2 (FP.ddiv x (4616189618054758400 : UInt64)) := h.div 2 0 dy4 (by decide) (by decide) (by omega) hn (by decide)
theorem div1024 {x : UInt64} {n : Int} (h : Dy n 0 x) (hn : n.natAbs < 2 ^ 53) : Dy n 10 (FP.ddiv x (4652218415073722368 : UInt64)) := h.div 10 0 dy1024 (by decide) (by decide) (by omega) hn (by decide)
theorem i32_53 (a : Int32) : a.toInt.natAbs < 2 ^ 53 := by have := RoadKit.rng32 a; omega
end Jvm.Pilot.@@N@@.Dyad
namespace Jvm.Pilot.@@N@@.Dyad
open Jvm Jvm.FP Jvm.FP.Core
/-- (long) x of a number that is not below nought -/
theorem Dy.d2l {n : Int} {k : Nat} {x : UInt64} (h : Dy n k x) (hn : 0 ≤ n) (P : Int) (hP : P = ((2 ^ k : Nat) : Int)) (hb : n / P < 9223372036854775808) : (FP.d2l x).toInt = n / P := by
  subst hP
  obtain ⟨s, c, q, e, w⟩ := h.fin
  have hw := whole_natAbs w
  have e1 : c * 2 ^ q.toNat / 2 ^ (-q).toNat = n.natAbs / 2 ^ k := by
    have e3 : q.toNat + k + (-(q + k)).toNat = (-q).toNat + (q + k).toNat := by omega
    have e4 : c * 2 ^ q.toNat * 2 ^ k = n.natAbs * 2 ^ (-q).toNat := by
      apply Nat.eq_of_mul_eq_mul_right (Nat.two_pow_pos (q + k).toNat)
      calc c * 2 ^ q.toNat * 2 ^ k * 2 ^ (q + k).toNat = (c * 2 ^ (q + k).toNat) * (2 ^ q.toNat * 2 ^ k) := by simp only [Nat.mul_assoc, Nat.mul_comm, Nat.mul_left_comm]
        _ = (n.natAbs * 2 ^ (-(q + k)).toNat) * (2 ^ q.toNat * 2 ^ k) := by rw [hw]
        _ = n.natAbs * (2 ^ (q.toNat + k + (-(q + k)).toNat)) := by rw [Nat.pow_add, Nat.pow_add]; simp only [Nat.mul_assoc, Nat.mul_comm, Nat.mul_left_comm]
        _ = n.natAbs * (2 ^ ((-q).toNat + (q + k).toNat)) := by rw [e3]
        _ = n.natAbs * 2 ^ (-q).toNat * 2 ^ (q + k).toNat := by rw [Nat.pow_add, Nat.mul_assoc]
    have p1 := Nat.two_pow_pos k
    have p2 := Nat.two_pow_pos (-q).toNat
    calc c * 2 ^ q.toNat / 2 ^ (-q).toNat = c * 2 ^ q.toNat * 2 ^ k / (2 ^ (-q).toNat * 2 ^ k) := (Nat.mul_div_mul_right _ _ p1).symm
      _ = n.natAbs * 2 ^ (-q).toNat / (2 ^ k * 2 ^ (-q).toNat) := by rw [e4, Nat.mul_comm (2 ^ (-q).toNat)]
      _ = n.natAbs / 2 ^ k := Nat.mul_div_mul_right _ _ p2
  have e2 : truncate s c q = n / ((2 ^ k : Nat) : Int) := by
    unfold truncate
    rw [e1]
    have e5 : ((n.natAbs / 2 ^ k : Nat) : Int) = n / ((2 ^ k : Nat) : Int) := by rw [Int.natCast_ediv, Int.natAbs_of_nonneg hn]
    by_cases h0 : n = 0
    · subst h0; rw [show (0 : Int).natAbs = 0 from rfl, Nat.zero_div, signed_zero, Int.zero_ediv]
    · rw [whole_sign w h0, decide_eq_false (by omega : ¬ n < 0)]; exact e5
  have h0 : 0 ≤ n / ((2 ^ k : Nat) : Int) := Int.ediv_nonneg hn (Int.natCast_nonneg _)
  show (toL (val64 x)).toInt = _
  rw [e]
  show (Int64.ofInt (max (-2 ^ 63) (min (2 ^ 63 - 1) (truncate s c q)))).toInt = _
  rw [e2]
  generalize n / ((2 ^ k : Nat) : Int) = D at *
  rw [show max (-2 ^ 63) (min (2 ^ 63 - 1) D) = D by omega]
  exact Int64.toInt_ofInt_of_le (by omega) (by omega)
end Jvm.Pilot.@@N@@.Dyad
namespace Jvm.Pilot.@@N@@
open Jvm Jvm.ClassFile Sem Op Lib Jvm.Free Jvm.Stand Jvm.LawKit Jvm.RoadKit Bundle Jvm.Pilot.@@N@@.Jvm.D
def own_K (p : Program) (e : Env) (below : List Frame) (A B : State) : Prop := ∀ t, Steps p.tables e below A t → Steps p.tables e below B t
theorem own_ifT_eq {x : Int32} (h : x = 0) : ifCond.holds .eq x = true := by simp [ifCond.holds, h]
theorem own_ifF_eq {x : Int32} (h : ¬ x = 0) : ifCond.holds .eq x = false := by simp [ifCond.holds, h]
theorem own_ifT_ne {x : Int32} (h : ¬ x = 0) : ifCond.holds .ne x = true := by simp [ifCond.holds, h]
theorem own_ifF_ne {x : Int32} (h : x = 0) : ifCond.holds .ne x = false := by simp [ifCond.holds, h]
theorem own_ifT_lt {x : Int32} (h : x < 0) : ifCond.holds .lt x = true := by simp [ifCond.holds, h]
theorem own_ifF_lt {x : Int32} (h : ¬ x < 0) : ifCond.holds .lt x = false := by simp [ifCond.holds, h]
theorem own_ifT_ge {x : Int32} (h : ¬ x < 0) : ifCond.holds .ge x = true := by simp [ifCond.holds, Int32.not_lt.mp h]
theorem own_ifF_ge {x : Int32} (h : x < 0) : ifCond.holds .ge x = false := by simp [ifCond.holds, Int32.not_le.mpr h]
theorem own_ifT_gt {x : Int32} (h : 0 < x) : ifCond.holds .gt x = true := by simp [ifCond.holds, h]
theorem own_ifF_gt {x : Int32} (h : ¬ 0 < x) : ifCond.holds .gt x = false := by simp [ifCond.holds, h]
theorem own_ifT_le {x : Int32} (h : ¬ 0 < x) : ifCond.holds .le x = true := by simp [ifCond.holds, Int32.not_lt.mp h]
theorem own_ifF_le {x : Int32} (h : 0 < x) : ifCond.holds .le x = false := by simp [ifCond.holds, Int32.not_le.mpr h]
theorem own_icT_eq {x y : Int32} (h : x = y) : if_icmp.holds .eq x y = true := by simp [if_icmp.holds, h]
theorem own_icF_eq {x y : Int32} (h : ¬ x = y) : if_icmp.holds .eq x y = false := by simp [if_icmp.holds, h]
theorem own_icT_ne {x y : Int32} (h : ¬ x = y) : if_icmp.holds .ne x y = true := by simp [if_icmp.holds, h]
theorem own_icF_ne {x y : Int32} (h : x = y) : if_icmp.holds .ne x y = false := by simp [if_icmp.holds, h]
theorem own_icT_lt {x y : Int32} (h : x < y) : if_icmp.holds .lt x y = true := by simp [if_icmp.holds, h]
theorem own_icF_lt {x y : Int32} (h : ¬ x < y) : if_icmp.holds .lt x y = false := by simp [if_icmp.holds, h]
theorem own_icT_ge {x y : Int32} (h : ¬ x < y) : if_icmp.holds .ge x y = true := by simp [if_icmp.holds, Int32.not_lt.mp h]
theorem own_icF_ge {x y : Int32} (h : x < y) : if_icmp.holds .ge x y = false := by simp [if_icmp.holds, Int32.not_le.mpr h]
theorem own_icT_gt {x y : Int32} (h : y < x) : if_icmp.holds .gt x y = true := by simp [if_icmp.holds, h]
theorem own_icF_gt {x y : Int32} (h : ¬ y < x) : if_icmp.holds .gt x y = false := by simp [if_icmp.holds, h]
theorem own_icT_le {x y : Int32} (h : ¬ y < x) : if_icmp.holds .le x y = true := by simp [if_icmp.holds, Int32.not_lt.mp h]
theorem own_icF_le {x y : Int32} (h : y < x) : if_icmp.holds .le x y = false := by simp [if_icmp.holds, Int32.not_le.mpr h]
theorem own_from {p : Program} {e : Env} {below : List Frame} {A B t : State} (h : B = A) (q : Steps p.tables e below B t) : Steps p.tables e below A t := h ▸ q
abbrev rO (f c s l : Nat) : Room := { frames := f, cells := c, slots := s, locals := l }
abbrev own_Met (l : Launch) (y : MethodName) (code : ByteArray) (ml : Nat) (ret : Option FieldType) (ws : List Jvm.Cond) (rm : Room) (as' : Array Value) (Z : State) (h0 : Heap) (Q : Option Value → Heap → List Loc → Prop) : Prop :=
  MetFree l y (head1 (Jvm.Cond.code y code ml ret :: ws) rm) (fun ar_ U => ar_ = as' ∧ Z.Warmed39 U.vm ∧ U.heap = h0) (fun _ _ _ _ _ => True) (fun _ U o U' => ∃ v L, o = .returned v ∧ Q v U'.heap L ∧ FrameEnd U o U' L rm.cells rm.slots)
theorem own_InsKeep {Z : State} {h h' : Heap} {b : Addr} {C : String} {bo : Bool} {ws : List Addr} (F : Ins Z h b C bo) (K : Keep h h' ws) (q : b ∉ ws) : Ins Z h' b C bo := by obtain ⟨cell, k, h1, r⟩ := F; exact ⟨cell, k, K.2.1 _ _ h1 q, r⟩
theorem wT {Z : State} {a0 : Array Value} (hw : ∀ d ∈ tables_1, d.before a0 Z = true) (i : Nat) {d : Jvm.Cond} (h : tables_1[i]? = some d) : d.before a0 Z = true := hw d (List.mem_of_getElem? h)
theorem own_mvNest {Z s : State} {a0 args : Array Value} {own host : String} {index : Nat} {y : MethodName} (hZ : Z.Warmed39 s.vm) (w : (Cond.methodLinkNest own index y host).before a0 Z = true) : (Cond.methodLinkNest own index y host).before args s = true := (Cond.methodLinkNest_wide hZ w :)
theorem own_pop2 {tb : Tables} [Ours tb] {e : Env} {below : List Frame} {T target : State} {m : MethodId} {c : Code} {g : JFrame} (h : At T m c below) (hx : tb.exec = Jvm.exec) (hg : g.method = m) {x : UInt64} {rest : List Value} (hd : decode c.code g.pc = .ok (.pop2, 1)) (hs : g.stack = .double x :: rest)
    (hr : Steps tb e below (T.setTop { g with pc := g.pc + 1, stack := rest }) target) : Steps tb e below (T.setTop g) target := by
  subst hg
  jvm_step h [h.top, hx, hd, hs, Value.category]
  exact hr
open Jvm.Pilot.@@N@@.Dyad
open Jvm.Free.Fl (i2d_fin Fin64)
abbrev own_len (a : Int32) : Int32 := ((a &&& (65535 : Int32)) + (1 : Int32))
theorem own_len_rng (a : Int32) : 1 ≤ (own_len a).toInt ∧ (own_len a).toInt ≤ 65536 := by
  have h1 := c_mask a (65535 : Int32) 16 (by decide) (by decide)
  have h3 := c_iadd (a &&& (65535 : Int32)) (1 : Int32)
  have h4 := rng32 ((a &&& (65535 : Int32)) + (1 : Int32))
  rw [h1, show (1 : Int32).toInt = 1 from rfl] at h3
  unfold own_len; omega
abbrev own_n (x : Int32) : Int32 := ((x &&& (15 : Int32)) + (1 : Int32))
theorem own_n_rng (x : Int32) : 1 ≤ (own_n x).toInt ∧ (own_n x).toInt ≤ 16 := by
  have h1 := c_mask x (15 : Int32) 4 (by decide) (by decide)
  have h3 := c_iadd (x &&& (15 : Int32)) (1 : Int32)
  have h4 := rng32 ((x &&& (15 : Int32)) + (1 : Int32))
  rw [h1, show (1 : Int32).toInt = 1 from rfl] at h3
  unfold own_n; omega
theorem own_n1 (x : Int32) : ¬ own_n x < (1 : Int32) := by
  rw [Int32.lt_iff_toInt_lt, show (1 : Int32).toInt = 1 from rfl]; have := own_n_rng x; omega
theorem own_n2 (x : Int32) : ¬ (16 : Int32) < own_n x := by
  rw [Int32.lt_iff_toInt_lt, show (16 : Int32).toInt = 16 from rfl]; have := own_n_rng x; omega
theorem own_dead {f : Int32} (h0 : ¬ (f &&& (3 : Int32)) = 0) (h1 : ¬ (f &&& (3 : Int32)) = (1 : Int32)) (h2 : (f &&& (3 : Int32)) < (2 : Int32)) : False := by
  have h := c_mask f (3 : Int32) 2 (by decide) (by decide)
  rw [Int32.lt_iff_toInt_lt, show (2 : Int32).toInt = 2 from rfl] at h2
  rw [← Int32.toInt_inj, show (0 : Int32).toInt = 0 from rfl] at h0
  rw [← Int32.toInt_inj, show (1 : Int32).toInt = 1 from rfl] at h1
  omega
theorem own_no (x : Int32) : Jvm.Free.Fl.NoNaN64 (FP.i2d x) := (i2d_fin x).noNaN
theorem own_pos {x : Int32} (h : 1 ≤ x.toInt) : cmpValue (FP.dcmp (FP.i2d x) FP.dconst0) .g = 1 := (Dy.i2d x).gt dy0 (by omega) _
theorem own_z_fin : Fin64 FP.dconst0 := by unfold Fin64 FP.dconst0; decide
theorem own_z_nneg : ¬ cmpValue (FP.dcmp FP.dconst0 FP.dconst0) .g < 0 := by rw [dy0.eq dy0 rfl]; decide
theorem own_gt0 {x : Int32} (h : 1 ≤ x.toInt) : cmpValue (FP.dcmp (FP.i2d x) FP.dconst0) .l = 1 := (Dy.i2d x).gt dy0 (by omega) _
theorem own_le (x : Int32) : ¬ 0 < cmpValue (FP.dcmp (FP.i2d x) (FP.i2d x)) .l := by rw [(Dy.i2d x).eq (Dy.i2d x) rfl]; decide
def own_hl (lane lo n : Int32) : Int32 := if lane < lo then 0 else if n < lane then 0 else 1
def own_ex (lane rv n : Int32) : Int32 := if lane < 0 then 0 else if lane = 0 then rv else if n < lane then 0 else 1
theorem own_same0 (lane n : Int32) (h : 1 ≤ n.toInt) : own_hl lane (1 : Int32) n = own_ex lane (0 : Int32) n := by
  unfold own_hl own_ex
  simp only [Int32.lt_iff_toInt_lt, ← Int32.toInt_inj (x := lane), show (1 : Int32).toInt = 1 from rfl, show (0 : Int32).toInt = 0 from rfl]
  split <;> split <;> (try split) <;> (try split) <;> first | rfl | omega
theorem own_same1 (lane n : Int32) (h : 1 ≤ n.toInt) : own_hl lane (0 : Int32) n = own_ex lane (1 : Int32) n := by
  unfold own_hl own_ex
  simp only [Int32.lt_iff_toInt_lt, ← Int32.toInt_inj (x := lane), show (0 : Int32).toInt = 0 from rfl]
  split <;> (try split) <;> (try split) <;> first | rfl | omega

theorem own_strAtoms {Z : State} {a0 : Array Value} (hw : ∀ d ∈ tables_1, d.before a0 Z = true) : ∀ a ∈ Bundle.stringAtoms, a.before a0 Z = true := by
  intro a ha
  simp only [Bundle.stringAtoms, List.mem_cons, List.not_mem_nil, or_false] at ha
  rcases ha with rfl | rfl | rfl | rfl | rfl | rfl | rfl
  · exact hw _ (List.mem_of_getElem? (i := 14) rfl)
  · exact hw _ (List.mem_of_getElem? (i := 15) rfl)
  · exact hw _ (List.mem_of_getElem? (i := 16) rfl)
  · exact hw _ (List.mem_of_getElem? (i := 17) rfl)
  · exact hw _ (List.mem_of_getElem? (i := 18) rfl)
  · exact hw _ (List.mem_of_getElem? (i := 19) rfl)
  · exact hw _ (List.mem_of_getElem? (i := 20) rfl)
theorem own_fin_le {d : UInt64} (h : Jvm.Free.Fl.Fin64 d) : (¬ 0 < cmpValue (FP.dcmp (d &&& (0x7fffffffffffffff : UInt64)) (9218868437227405311 : UInt64)) .g) := by
  have q := (Jvm.Free.Fl.le_max_iff h.noNaN).mpr h
  have e : Jvm.Free.Fl.maxD = (9218868437227405311 : UInt64) := by decide
  rw [e] at q
  revert q
  generalize FP.dcmp (d &&& (0x7fffffffffffffff : UInt64)) (9218868437227405311 : UInt64) = o
  intro q
  rcases o with _ | (_ | _ | _) <;> first | (exact absurd q (by decide)) | decide
def QI (r : Int32) (h0 : Heap) (n0 : Nat) (v : Option Value) (h : Heap) (L : List Loc) : Prop := v = some (.int r) ∧ Fr n0 L ∧ h = h0
def QD (r : UInt64) (h0 : Heap) (n0 : Nat) (v : Option Value) (h : Heap) (L : List Loc) : Prop := v = some (.double r) ∧ Fr n0 L ∧ h = h0
def QR (r : Addr) (h0 : Heap) (n0 : Nat) (v : Option Value) (h : Heap) (L : List Loc) : Prop := v = some (.ref r) ∧ Fr n0 L ∧ h = h0
theorem own_h1 : decode jdk_117_method_8_code 0 = .ok (.dload_n 0, 1) := by decide +kernel
theorem own_h2 : decode jdk_117_method_8_code 1 = .ok (.invokestatic 38, 3) := by decide +kernel
theorem own_h3 : decode jdk_117_method_8_code 4 = .ok (.ldc2_w 111, 3) := by decide +kernel
theorem own_h4 : decode jdk_117_method_8_code 7 = .ok (.dcmp .g, 1) := by decide +kernel
theorem own_h5 : decode jdk_117_method_8_code 8 = .ok (.ifCond .gt 7, 3) := by decide +kernel
theorem own_h6 : decode jdk_117_method_8_code 11 = .ok (.iconst 1, 1) := by decide +kernel
theorem own_h7 : decode jdk_117_method_8_code 12 = .ok (.goto 4, 3) := by decide +kernel
theorem own_h8 : decode jdk_117_method_8_code 15 = .ok (.iconst 0, 1) := by decide +kernel
theorem own_h9 : decode jdk_117_method_8_code 16 = .ok (.ireturn, 1) := by decide +kernel
theorem own_h10 : plainName "java/lang/Double" = true := by first | (simp [plainName, overriddenIn]; done) | decide +kernel
theorem own_h11 : parseMethodDescriptor "(DI)V" = some ⟨[.double, .int], none⟩ := by decide +kernel
theorem own_h12 : parseMethodDescriptor "(DIZ)V" = some ⟨[.double, .int, .boolean], none⟩ := by decide +kernel
theorem own_h13 : parseMethodDescriptor "()V" = some ⟨[], none⟩ := by decide +kernel
theorem own_h14 : parseMethodDescriptor "(Ljava/lang/String;D)D" = some ⟨[.object "java/lang/String", .double], some .double⟩ := by decide +kernel
theorem own_h15 : parseMethodDescriptor "(D)Z" = some ⟨[.double], some .boolean⟩ := by decide +kernel
theorem own_h16 : parseMethodDescriptor "(D)D" = some ⟨[.double], some .double⟩ := by decide +kernel
theorem own_h17 : parseMethodDescriptor "(I)Z" = some ⟨[.int], some .boolean⟩ := by decide +kernel
theorem own_h18 : parseMethodDescriptor "()I" = some ⟨[], some .int⟩ := by decide +kernel
theorem own_h19 : parseMethodDescriptor "(DI)Lcom/example/ample_gap/amplegap/simulation/Road;" = some ⟨[.double, .int], some (.object "com/example/ample_gap/amplegap/simulation/Road")⟩ := by decide +kernel
theorem own_h20 : parseMethodDescriptor "(D)V" = some ⟨[.double], none⟩ := by decide +kernel
theorem own_h21 : parseMethodDescriptor "(DD)V" = some ⟨[.double, .double], none⟩ := by decide +kernel
theorem own_h22 : parseMethodDescriptor "(Lcom/example/ample_gap/amplegap/simulation/OnRamp;)Lcom/example/ample_gap/amplegap/simulation/Road;" = some ⟨[.object "com/example/ample_gap/amplegap/simulation/OnRamp"], some (.object "com/example/ample_gap/amplegap/simulation/Road")⟩ := by decide +kernel
theorem own_h23 : parseMethodDescriptor "(Ljava/lang/Object;Ljava/lang/String;)Ljava/lang/Object;" = some ⟨[.object "java/lang/Object", .object "java/lang/String"], some (.object "java/lang/Object")⟩ := by decide +kernel
theorem own_h24 : parseMethodDescriptor "()D" = some ⟨[], some .double⟩ := by decide +kernel
theorem own_h25 : parseMethodDescriptor "(Lcom/example/ample_gap/amplegap/simulation/Road;Lcom/example/ample_gap/amplegap/simulation/OnRamp;)V" = some ⟨[.object "com/example/ample_gap/amplegap/simulation/Road", .object "com/example/ample_gap/amplegap/simulation/OnRamp"], none⟩ := by decide +kernel
set_option maxRecDepth 65536 in
set_option maxHeartbeats 40000000 in
theorem rmFi (l : Launch) (Z : State) (a0 : Array Value) (hw : ∀ d ∈ tables_1, d.before a0 Z = true) (ws : List Jvm.Cond) (d : UInt64) (h0 : Heap) (n0 : Nat) (Z0 : n0 ≤ h0.size) (n1 : Jvm.Free.Fl.NoNaN64 d) (n2 : (¬ 0 < cmpValue (FP.dcmp (d &&& (0x7fffffffffffffff : UInt64)) (9218868437227405311 : UInt64)) .g)) :
    MetFree l (⟨"java/lang/Double", "isFinite", "(D)Z"⟩ : MethodName) (head1 (Jvm.Cond.code (⟨"java/lang/Double", "isFinite", "(D)Z"⟩ : MethodName) jdk_117_method_8_code 2 (some .boolean) :: ws) ({ frames := 1, cells := 0, slots := 0, locals := 13 } : Room)) (fun ar_ U => ar_ = #[(.double d)] ∧ Z.Warmed39 U.vm ∧ U.heap = h0) (fun _ _ _ _ _ => True) (fun _ U o U' => ∃ v L, o = .returned v ∧ QI (1 : Int32) h0 n0 v U'.heap L ∧ FrameEnd U o U' L ({ frames := 1, cells := 0, slots := 0, locals := 13 } : Room).cells ({ frames := 1, cells := 0, slots := 0, locals := 13 } : Room).slots) := by
  refine MetFree.of_bodySF (plainFor_of_name own_h10) hisR ?_
  intro p e s m args below meth c s₁ Bd hml0 hP hK
  obtain ⟨rfl, hZ, hh⟩ := hP
  have hx := Bd.exec
  have hby := Bd.bytes
  have hml : c.maxLocals = 2 := hml0
  have hown : s.vm.findClass "java/lang/Double" = some m.cls := findClass_of_methodNamed Bd.named
  have hnm := (name_of_methodNamed Bd.named Bd.method).1
  have X0 : Stand p l e ({ frames := 1, cells := 0, slots := 0, locals := 13 } : Room) s m #[(.double d)] below meth c s₁ [] 0 0 := Stand.of_body Bd
  have e0 : s₁.heap = h0 := by rw [← hh, Bd.state]; rfl
  have N0 := Fr.nil n0
  have k0 : own_K p e below (s₁.setTop (mkF m 0 #[.val (.double d), .second] [])) (s₁.setTop (entryFrame m #[(.double d)] 2)) := fun t k => castTop (by clear k; first | (simp [entryFrame, mkF, argsToLocals, Value.category, maxLocals]; done) | rfl) k
  have k1 : own_K p e below (s₁.setTop (mkF m 1 #[.val (.double d), .second] [(.double d)])) (s₁.setTop (entryFrame m #[(.double d)] 2)) := fun t hh => k0 t (by
    refine XS.dloadN X0.here hx rfl (hb hby own_h1) rfl ?_
    show Steps p.tables e below (s₁.setTop (mkF m 1 #[.val (.double d), .second] [(.double d)])) _
    exact hh)
  obtain ⟨T1, X2, e3, st4⟩ := natS X0 hx hZ (y := (⟨"java/lang/Math", "abs", "(D)D"⟩ : MethodName)) hown (wT hw 32 rfl) (wT hw 33 rfl) (wT hw 34 rfl) (wT hw 35 rfl) (by decide) e0 (W := 0) (val' := (.double (d &&& (0x7fffffffffffffff : UInt64)))) (fun c4 => Jvm.Free.Fl.Abs.absD_pays d c4 (by decide) (by decide)) (g := (mkF m 1 #[.val (.double d), .second] [(.double d)])) rfl (by rw [hml]; rfl) (argsL := [(.double d)]) (rest := []) (lenOf own_h16 rfl) rfl (by show 2 * 0 + _ ≤ _; exact Nat.le_of_eq rfl) (hb hby own_h2) (by decide) (by decide) ⟨rfl, n1⟩ rfl
  have k2 : own_K p e below (T1.setTop (mkF m 4 #[.val (.double d), .second] [(.double (d &&& (0x7fffffffffffffff : UInt64)))])) (s₁.setTop (entryFrame m #[(.double d)] 2)) := fun t hh => k1 t (st4 t hh)
  have k3 : own_K p e below (T1.setTop (mkF m 16 #[.val (.double d), .second] [(.int (1 : Int32))])) (s₁.setTop (entryFrame m #[(.double d)] 2)) := fun t hh => k2 t (by
    refine X2.ldc2DoubleC hx hown (mvT hZ (wT hw 36 rfl)) (g := (mkF m 4 #[.val (.double d), .second] [(.double (d &&& (0x7fffffffffffffff : UInt64)))])) rfl (hb hby own_h3) _ ?_
    show Steps p.tables e below (T1.setTop (mkF m 7 #[.val (.double d), .second] [(.double (9218868437227405311 : UInt64)), (.double (d &&& (0x7fffffffffffffff : UInt64)))])) _
    refine XS.dcmpS X2.here hx rfl (hb hby own_h4) rfl rfl ?_
    show Steps p.tables e below (T1.setTop (mkF m 8 #[.val (.double d), .second] [(.int (cmpValue (FP.dcmp (d &&& (0x7fffffffffffffff : UInt64)) (9218868437227405311 : UInt64)) .g))])) _
    refine XS.ifNo X2.here hx rfl (hb hby own_h5) rfl (own_ifF_gt n2) ?_
    show Steps p.tables e below (T1.setTop (mkF m 11 #[.val (.double d), .second] [])) _
    refine XS.iconst X2.here hx rfl (hb hby own_h6) ?_
    show Steps p.tables e below (T1.setTop (mkF m 12 #[.val (.double d), .second] [(.int (1 : Int32))])) _
    refine XS.goto X2.here hx rfl (pc0 := 12) (pc' := 16) rfl (hb hby own_h7) (by decide) (by decide) ?_
    show Steps p.tables e below (T1.setTop (mkF m 16 #[.val (.double d), .second] [(.int (1 : Int32))])) _
    exact hh)
  obtain ⟨fs, hr, hrun, hended, hW, hsame⟩ := X2.leave (v := some (.int (1 : Int32))) (fun h => by rw [Bd.returns] at h; cases h)
  refine ⟨_, _, k3 _ (retN X2 hx (t := .boolean) Bd.returns (by simp) (hb hby own_h9) hr), hrun, hended, _, _, rfl, ?_, ⟨_, rfl⟩, hW, hsame.mono (by decide) (by decide)⟩
  show QI (1 : Int32) h0 n0 _ T1.heap _
  rw [e3]
  exact ⟨rfl, N0, rfl⟩
theorem own_h26 : decode prog_30_method_5_code 0 = .ok (.dload_n 1, 1) := by decide +kernel
theorem own_h27 : decode prog_30_method_5_code 1 = .ok (.invokestatic 26, 3) := by decide +kernel
theorem own_h28 : decode prog_30_method_5_code 4 = .ok (.ifCond .ne 18, 3) := by decide +kernel
theorem own_h29 : decode prog_30_method_5_code 7 = .ok (.new 13, 3) := by decide +kernel
theorem own_h30 : decode prog_30_method_5_code 10 = .ok (.dup, 1) := by decide +kernel
theorem own_h31 : decode prog_30_method_5_code 11 = .ok (.aload_n 0, 1) := by decide +kernel
theorem own_h32 : decode prog_30_method_5_code 12 = .ok (.dload_n 1, 1) := by decide +kernel
theorem own_h33 : decode prog_30_method_5_code 13 = .ok (.invokedynamic 32, 5) := by decide +kernel
theorem own_h34 : decode prog_30_method_5_code 18 = .ok (.invokespecial 19, 3) := by decide +kernel
theorem own_h35 : decode prog_30_method_5_code 21 = .ok (.athrow, 1) := by decide +kernel
theorem own_h36 : decode prog_30_method_5_code 22 = .ok (.dload_n 1, 1) := by decide +kernel
theorem own_h37 : decode prog_30_method_5_code 23 = .ok (.dreturn, 1) := by decide +kernel
theorem own_h38 : plainName "com/example/ample_gap/amplegap/model/Ranges" = true := by first | (simp [plainName, overriddenIn]; done) | decide +kernel
set_option maxRecDepth 65536 in
set_option maxHeartbeats 40000000 in
theorem rmRf (l : Launch) (Z : State) (a0 : Array Value) (hw : ∀ d ∈ tables_1, d.before a0 Z = true) (ws : List Jvm.Cond) (sa : Addr) (d : UInt64) (h0 : Heap) (n0 : Nat) (Z0 : n0 ≤ h0.size) (n1 : Jvm.Free.Fl.NoNaN64 d) (n2 : (¬ 0 < cmpValue (FP.dcmp (d &&& (0x7fffffffffffffff : UInt64)) (9218868437227405311 : UInt64)) .g)) :
    MetFree l (⟨"com/example/ample_gap/amplegap/model/Ranges", "requireFinite", "(Ljava/lang/String;D)D"⟩ : MethodName) (head1 (Jvm.Cond.code (⟨"com/example/ample_gap/amplegap/model/Ranges", "requireFinite", "(Ljava/lang/String;D)D"⟩ : MethodName) prog_30_method_5_code 3 (some .double) :: ws) ({ frames := 2, cells := 0, slots := 0, locals := 26 } : Room)) (fun ar_ U => ar_ = #[(.ref sa), (.double d)] ∧ Z.Warmed39 U.vm ∧ U.heap = h0) (fun _ _ _ _ _ => True) (fun _ U o U' => ∃ v L, o = .returned v ∧ QD d h0 n0 v U'.heap L ∧ FrameEnd U o U' L ({ frames := 2, cells := 0, slots := 0, locals := 26 } : Room).cells ({ frames := 2, cells := 0, slots := 0, locals := 26 } : Room).slots) := by
  refine MetFree.of_bodySF (plainFor_of_name own_h38) hisR ?_
  intro p e s m args below meth c s₁ Bd hml0 hP hK
  obtain ⟨rfl, hZ, hh⟩ := hP
  have hx := Bd.exec
  have hby := Bd.bytes
  have hml : c.maxLocals = 3 := hml0
  have hown : s.vm.findClass "com/example/ample_gap/amplegap/model/Ranges" = some m.cls := findClass_of_methodNamed Bd.named
  have hnm := (name_of_methodNamed Bd.named Bd.method).1
  have X0 : Stand p l e ({ frames := 2, cells := 0, slots := 0, locals := 26 } : Room) s m #[(.ref sa), (.double d)] below meth c s₁ [] 0 0 := Stand.of_body Bd
  have e0 : s₁.heap = h0 := by rw [← hh, Bd.state]; rfl
  have N0 := Fr.nil n0
  have k0 : own_K p e below (s₁.setTop (mkF m 0 #[.val (.ref sa), .val (.double d), .second] [])) (s₁.setTop (entryFrame m #[(.ref sa), (.double d)] 3)) := fun t k => castTop (by clear k; first | (simp [entryFrame, mkF, argsToLocals, Value.category, maxLocals]; done) | rfl) k
  have k1 : own_K p e below (s₁.setTop (mkF m 1 #[.val (.ref sa), .val (.double d), .second] [(.double d)])) (s₁.setTop (entryFrame m #[(.ref sa), (.double d)] 3)) := fun t hh => k0 t (by
    refine XS.dloadN X0.here hx rfl (hb hby own_h26) rfl ?_
    show Steps p.tables e below (s₁.setTop (mkF m 1 #[.val (.ref sa), .val (.double d), .second] [(.double d)])) _
    exact hh)
  obtain ⟨_, _, ⟨T5, L6, k_7, n_8⟩, -, X9, ⟨Lc10, hQ11, l_12, y_13, z_14⟩, st15⟩ := Jvm.LawKit.callS X0 hx (y := (⟨"java/lang/Double", "isFinite", "(D)Z"⟩ : MethodName)) hown (mvT hZ (wT hw 28 rfl)) (mvT hZ (wT hw 29 rfl)) (mvT hZ (wT hw 30 rfl)) (mvT hZ (wT hw 31 rfl)) (by decide) (backOf (W := 0) (rmFi l Z a0 hw [] d h0 n0 Z0 n1 n2) hZ (wT hw 31 rfl) (wT hw 30 rfl) (by decide) (by decide)) (g := (mkF m 1 #[.val (.ref sa), .val (.double d), .second] [(.double d)])) rfl (by rw [hml]; rfl) (argsL := [(.double d)]) (rest := []) (lenOf own_h15 rfl) rfl (by show 2 * 0 + _ ≤ _; exact Nat.le_of_eq rfl) (hb hby own_h27) (fun _ _ => ⟨rfl, e0, (by decide : 0 + 0 ≤ _), (by decide : 0 + 0 ≤ _)⟩)
  dsimp only [Pt.U, Pt.locs, Pt.cells, Pt.slots] at X9 l_12 y_13 z_14 st15 hQ11
  subst l_12 y_13 z_14
  obtain ⟨rfl, N16, e17⟩ := hQ11
  have N18 := Fr.app N0 N16
  have k2 : own_K p e below (T5.setTop (mkF m 4 #[.val (.ref sa), .val (.double d), .second] [(.int (1 : Int32))])) (s₁.setTop (entryFrame m #[(.ref sa), (.double d)] 3)) := fun t hh => k1 t (st15 t hh)
  have k3 : own_K p e below (T5.setTop (mkF m 23 #[.val (.ref sa), .val (.double d), .second] [(.double d)])) (s₁.setTop (entryFrame m #[(.ref sa), (.double d)] 3)) := fun t hh => k2 t (by
    refine XS.ifYes X9.here hx rfl (pc0 := 4) (pc' := 22) rfl (hb hby own_h28) rfl (by decide) (by decide) (by decide) ?_
    show Steps p.tables e below (T5.setTop (mkF m 22 #[.val (.ref sa), .val (.double d), .second] [])) _
    refine XS.dloadN X9.here hx rfl (hb hby own_h36) rfl ?_
    show Steps p.tables e below (T5.setTop (mkF m 23 #[.val (.ref sa), .val (.double d), .second] [(.double d)])) _
    exact hh)
  obtain ⟨fs, hr, hrun, hended, hW, hsame⟩ := X9.leave (v := some (.double d)) (fun h => by rw [Bd.returns] at h; cases h)
  refine ⟨_, _, k3 _ (retOut X9 hx (t := .double) Bd.returns rfl (Or.inr (Or.inr (Or.inl ⟨rfl, rfl, _, rfl⟩))) (hb hby own_h37) hr), hrun, hended, _, _, rfl, ?_, ⟨_, rfl⟩, hW, hsame.mono (by decide) (by decide)⟩
  show QD d h0 n0 _ T5.heap _
  rw [e17]
  exact ⟨rfl, N18, rfl⟩
theorem own_h39 : decode prog_30_method_2_code 0 = .ok (.aload_n 0, 1) := by decide +kernel
theorem own_h40 : decode prog_30_method_2_code 1 = .ok (.dload_n 1, 1) := by decide +kernel
theorem own_h41 : decode prog_30_method_2_code 2 = .ok (.invokestatic 7, 3) := by decide +kernel
theorem own_h42 : decode prog_30_method_2_code 5 = .ok (.pop2, 1) := by decide +kernel
theorem own_h43 : decode prog_30_method_2_code 6 = .ok (.dload_n 1, 1) := by decide +kernel
theorem own_h44 : decode prog_30_method_2_code 7 = .ok (.dconst 0, 1) := by decide +kernel
theorem own_h45 : decode prog_30_method_2_code 8 = .ok (.dcmp .g, 1) := by decide +kernel
theorem own_h46 : decode prog_30_method_2_code 9 = .ok (.ifCond .gt 18, 3) := by decide +kernel
theorem own_h47 : decode prog_30_method_2_code 12 = .ok (.new 13, 3) := by decide +kernel
theorem own_h48 : decode prog_30_method_2_code 15 = .ok (.dup, 1) := by decide +kernel
theorem own_h49 : decode prog_30_method_2_code 16 = .ok (.aload_n 0, 1) := by decide +kernel
theorem own_h50 : decode prog_30_method_2_code 17 = .ok (.dload_n 1, 1) := by decide +kernel
theorem own_h51 : decode prog_30_method_2_code 18 = .ok (.invokedynamic 15, 5) := by decide +kernel
theorem own_h52 : decode prog_30_method_2_code 23 = .ok (.invokespecial 19, 3) := by decide +kernel
theorem own_h53 : decode prog_30_method_2_code 26 = .ok (.athrow, 1) := by decide +kernel
theorem own_h54 : decode prog_30_method_2_code 27 = .ok (.dload_n 1, 1) := by decide +kernel
theorem own_h55 : decode prog_30_method_2_code 28 = .ok (.dreturn, 1) := by decide +kernel
set_option maxRecDepth 65536 in
set_option maxHeartbeats 40000000 in
theorem rmRp (l : Launch) (Z : State) (a0 : Array Value) (hw : ∀ d ∈ tables_1, d.before a0 Z = true) (ws : List Jvm.Cond) (sa : Addr) (d : UInt64) (h0 : Heap) (n0 : Nat) (Z0 : n0 ≤ h0.size) (n1 : Jvm.Free.Fl.NoNaN64 d) (n2 : (¬ 0 < cmpValue (FP.dcmp (d &&& (0x7fffffffffffffff : UInt64)) (9218868437227405311 : UInt64)) .g)) (n3 : cmpValue (FP.dcmp d FP.dconst0) .g = 1) :
    MetFree l (⟨"com/example/ample_gap/amplegap/model/Ranges", "requirePositive", "(Ljava/lang/String;D)D"⟩ : MethodName) (head1 (Jvm.Cond.code (⟨"com/example/ample_gap/amplegap/model/Ranges", "requirePositive", "(Ljava/lang/String;D)D"⟩ : MethodName) prog_30_method_2_code 3 (some .double) :: ws) ({ frames := 3, cells := 0, slots := 0, locals := 40 } : Room)) (fun ar_ U => ar_ = #[(.ref sa), (.double d)] ∧ Z.Warmed39 U.vm ∧ U.heap = h0) (fun _ _ _ _ _ => True) (fun _ U o U' => ∃ v L, o = .returned v ∧ QD d h0 n0 v U'.heap L ∧ FrameEnd U o U' L ({ frames := 3, cells := 0, slots := 0, locals := 40 } : Room).cells ({ frames := 3, cells := 0, slots := 0, locals := 40 } : Room).slots) := by
  refine MetFree.of_bodySF (plainFor_of_name own_h38) hisR ?_
  intro p e s m args below meth c s₁ Bd hml0 hP hK
  obtain ⟨rfl, hZ, hh⟩ := hP
  have hx := Bd.exec
  have hby := Bd.bytes
  have hml : c.maxLocals = 3 := hml0
  have hown : s.vm.findClass "com/example/ample_gap/amplegap/model/Ranges" = some m.cls := findClass_of_methodNamed Bd.named
  have hnm := (name_of_methodNamed Bd.named Bd.method).1
  have X0 : Stand p l e ({ frames := 3, cells := 0, slots := 0, locals := 40 } : Room) s m #[(.ref sa), (.double d)] below meth c s₁ [] 0 0 := Stand.of_body Bd
  have e0 : s₁.heap = h0 := by rw [← hh, Bd.state]; rfl
  have N0 := Fr.nil n0
  have k0 : own_K p e below (s₁.setTop (mkF m 0 #[.val (.ref sa), .val (.double d), .second] [])) (s₁.setTop (entryFrame m #[(.ref sa), (.double d)] 3)) := fun t k => castTop (by clear k; first | (simp [entryFrame, mkF, argsToLocals, Value.category, maxLocals]; done) | rfl) k
  have k1 : own_K p e below (s₁.setTop (mkF m 2 #[.val (.ref sa), .val (.double d), .second] [(.double d), (.ref sa)])) (s₁.setTop (entryFrame m #[(.ref sa), (.double d)] 3)) := fun t hh => k0 t (by
    refine XS.aloadN X0.here hx rfl (hb hby own_h39) rfl rfl ?_
    show Steps p.tables e below (s₁.setTop (mkF m 1 #[.val (.ref sa), .val (.double d), .second] [(.ref sa)])) _
    refine XS.dloadN X0.here hx rfl (hb hby own_h40) rfl ?_
    show Steps p.tables e below (s₁.setTop (mkF m 2 #[.val (.ref sa), .val (.double d), .second] [(.double d), (.ref sa)])) _
    exact hh)
  obtain ⟨_, _, ⟨T19, L20, k_21, n_22⟩, -, X23, ⟨Lc24, hQ25, l_26, y_27, z_28⟩, st29⟩ := Jvm.LawKit.callS X0 hx (y := (⟨"com/example/ample_gap/amplegap/model/Ranges", "requireFinite", "(Ljava/lang/String;D)D"⟩ : MethodName)) hown (mvT hZ (wT hw 25 rfl)) (mvT hZ (wT hw 26 rfl)) (mvT hZ (wT hw 23 rfl)) (mvT hZ (wT hw 27 rfl)) (by decide) (backOf (W := 0) (rmRf l Z a0 hw [] sa d h0 n0 Z0 n1 n2) hZ (wT hw 27 rfl) (wT hw 23 rfl) (by decide) (by decide)) (g := (mkF m 2 #[.val (.ref sa), .val (.double d), .second] [(.double d), (.ref sa)])) rfl (by rw [hml]; rfl) (argsL := [(.ref sa), (.double d)]) (rest := []) (lenOf own_h14 rfl) rfl (by show 2 * 0 + _ ≤ _; exact Nat.le_of_eq rfl) (hb hby own_h41) (fun _ _ => ⟨rfl, e0, (by decide : 0 + 0 ≤ _), (by decide : 0 + 0 ≤ _)⟩)
  dsimp only [Pt.U, Pt.locs, Pt.cells, Pt.slots] at X23 l_26 y_27 z_28 st29 hQ25
  subst l_26 y_27 z_28
  obtain ⟨rfl, N30, e31⟩ := hQ25
  have N32 := Fr.app N0 N30
  have k2 : own_K p e below (T19.setTop (mkF m 5 #[.val (.ref sa), .val (.double d), .second] [(.double d)])) (s₁.setTop (entryFrame m #[(.ref sa), (.double d)] 3)) := fun t hh => k1 t (st29 t hh)
  have k3 : own_K p e below (T19.setTop (mkF m 28 #[.val (.ref sa), .val (.double d), .second] [(.double d)])) (s₁.setTop (entryFrame m #[(.ref sa), (.double d)] 3)) := fun t hh => k2 t (by
    refine own_pop2 X23.here hx rfl (hb hby own_h42) rfl ?_
    show Steps p.tables e below (T19.setTop (mkF m 6 #[.val (.ref sa), .val (.double d), .second] [])) _
    refine XS.dloadN X23.here hx rfl (hb hby own_h43) rfl ?_
    show Steps p.tables e below (T19.setTop (mkF m 7 #[.val (.ref sa), .val (.double d), .second] [(.double d)])) _
    refine XS.dconst0 X23.here hx rfl (hb hby own_h44) rfl ?_
    show Steps p.tables e below (T19.setTop (mkF m 8 #[.val (.ref sa), .val (.double d), .second] [(.double FP.dconst0), (.double d)])) _
    refine XS.dcmpS X23.here hx rfl (hb hby own_h45) rfl n3 ?_
    show Steps p.tables e below (T19.setTop (mkF m 9 #[.val (.ref sa), .val (.double d), .second] [(.int (1 : Int32))])) _
    refine XS.ifYes X23.here hx rfl (pc0 := 9) (pc' := 27) rfl (hb hby own_h46) rfl (by decide) (by decide) (by decide) ?_
    show Steps p.tables e below (T19.setTop (mkF m 27 #[.val (.ref sa), .val (.double d), .second] [])) _
    refine XS.dloadN X23.here hx rfl (hb hby own_h54) rfl ?_
    show Steps p.tables e below (T19.setTop (mkF m 28 #[.val (.ref sa), .val (.double d), .second] [(.double d)])) _
    exact hh)
  obtain ⟨fs, hr, hrun, hended, hW, hsame⟩ := X23.leave (v := some (.double d)) (fun h => by rw [Bd.returns] at h; cases h)
  refine ⟨_, _, k3 _ (retOut X23 hx (t := .double) Bd.returns rfl (Or.inr (Or.inr (Or.inl ⟨rfl, rfl, _, rfl⟩))) (hb hby own_h55) hr), hrun, hended, _, _, rfl, ?_, ⟨_, rfl⟩, hW, hsame.mono (by decide) (by decide)⟩
  show QD d h0 n0 _ T19.heap _
  rw [e31]
  exact ⟨rfl, N32, rfl⟩
theorem own_h56 : decode prog_30_method_3_code 0 = .ok (.aload_n 0, 1) := by decide +kernel
theorem own_h57 : decode prog_30_method_3_code 1 = .ok (.dload_n 1, 1) := by decide +kernel
theorem own_h58 : decode prog_30_method_3_code 2 = .ok (.invokestatic 7, 3) := by decide +kernel
theorem own_h59 : decode prog_30_method_3_code 5 = .ok (.pop2, 1) := by decide +kernel
theorem own_h60 : decode prog_30_method_3_code 6 = .ok (.dload_n 1, 1) := by decide +kernel
theorem own_h61 : decode prog_30_method_3_code 7 = .ok (.dconst 0, 1) := by decide +kernel
theorem own_h62 : decode prog_30_method_3_code 8 = .ok (.dcmp .g, 1) := by decide +kernel
theorem own_h63 : decode prog_30_method_3_code 9 = .ok (.ifCond .ge 18, 3) := by decide +kernel
theorem own_h64 : decode prog_30_method_3_code 12 = .ok (.new 13, 3) := by decide +kernel
theorem own_h65 : decode prog_30_method_3_code 15 = .ok (.dup, 1) := by decide +kernel
theorem own_h66 : decode prog_30_method_3_code 16 = .ok (.aload_n 0, 1) := by decide +kernel
theorem own_h67 : decode prog_30_method_3_code 17 = .ok (.dload_n 1, 1) := by decide +kernel
theorem own_h68 : decode prog_30_method_3_code 18 = .ok (.invokedynamic 22, 5) := by decide +kernel
theorem own_h69 : decode prog_30_method_3_code 23 = .ok (.invokespecial 19, 3) := by decide +kernel
theorem own_h70 : decode prog_30_method_3_code 26 = .ok (.athrow, 1) := by decide +kernel
theorem own_h71 : decode prog_30_method_3_code 27 = .ok (.dload_n 1, 1) := by decide +kernel
theorem own_h72 : decode prog_30_method_3_code 28 = .ok (.dreturn, 1) := by decide +kernel
set_option maxRecDepth 65536 in
set_option maxHeartbeats 40000000 in
theorem rmRn (l : Launch) (Z : State) (a0 : Array Value) (hw : ∀ d ∈ tables_1, d.before a0 Z = true) (ws : List Jvm.Cond) (sa : Addr) (d : UInt64) (h0 : Heap) (n0 : Nat) (Z0 : n0 ≤ h0.size) (n1 : Jvm.Free.Fl.NoNaN64 d) (n2 : (¬ 0 < cmpValue (FP.dcmp (d &&& (0x7fffffffffffffff : UInt64)) (9218868437227405311 : UInt64)) .g)) (n3 : ¬ cmpValue (FP.dcmp d FP.dconst0) .g < 0) :
    MetFree l (⟨"com/example/ample_gap/amplegap/model/Ranges", "requireNonNegative", "(Ljava/lang/String;D)D"⟩ : MethodName) (head1 (Jvm.Cond.code (⟨"com/example/ample_gap/amplegap/model/Ranges", "requireNonNegative", "(Ljava/lang/String;D)D"⟩ : MethodName) prog_30_method_3_code 3 (some .double) :: ws) ({ frames := 3, cells := 0, slots := 0, locals := 40 } : Room)) (fun ar_ U => ar_ = #[(.ref sa), (.double d)] ∧ Z.Warmed39 U.vm ∧ U.heap = h0) (fun _ _ _ _ _ => True) (fun _ U o U' => ∃ v L, o = .returned v ∧ QD d h0 n0 v U'.heap L ∧ FrameEnd U o U' L ({ frames := 3, cells := 0, slots := 0, locals := 40 } : Room).cells ({ frames := 3, cells := 0, slots := 0, locals := 40 } : Room).slots) := by
  refine MetFree.of_bodySF (plainFor_of_name own_h38) hisR ?_
  intro p e s m args below meth c s₁ Bd hml0 hP hK
  obtain ⟨rfl, hZ, hh⟩ := hP
  have hx := Bd.exec
  have hby := Bd.bytes
  have hml : c.maxLocals = 3 := hml0
  have hown : s.vm.findClass "com/example/ample_gap/amplegap/model/Ranges" = some m.cls := findClass_of_methodNamed Bd.named
  have hnm := (name_of_methodNamed Bd.named Bd.method).1
  have X0 : Stand p l e ({ frames := 3, cells := 0, slots := 0, locals := 40 } : Room) s m #[(.ref sa), (.double d)] below meth c s₁ [] 0 0 := Stand.of_body Bd
  have e0 : s₁.heap = h0 := by rw [← hh, Bd.state]; rfl
  have N0 := Fr.nil n0
  have k0 : own_K p e below (s₁.setTop (mkF m 0 #[.val (.ref sa), .val (.double d), .second] [])) (s₁.setTop (entryFrame m #[(.ref sa), (.double d)] 3)) := fun t k => castTop (by clear k; first | (simp [entryFrame, mkF, argsToLocals, Value.category, maxLocals]; done) | rfl) k
  have k1 : own_K p e below (s₁.setTop (mkF m 2 #[.val (.ref sa), .val (.double d), .second] [(.double d), (.ref sa)])) (s₁.setTop (entryFrame m #[(.ref sa), (.double d)] 3)) := fun t hh => k0 t (by
    refine XS.aloadN X0.here hx rfl (hb hby own_h56) rfl rfl ?_
    show Steps p.tables e below (s₁.setTop (mkF m 1 #[.val (.ref sa), .val (.double d), .second] [(.ref sa)])) _
    refine XS.dloadN X0.here hx rfl (hb hby own_h57) rfl ?_
    show Steps p.tables e below (s₁.setTop (mkF m 2 #[.val (.ref sa), .val (.double d), .second] [(.double d), (.ref sa)])) _
    exact hh)
  obtain ⟨_, _, ⟨T33, L34, k_35, n_36⟩, -, X37, ⟨Lc38, hQ39, l_40, y_41, z_42⟩, st43⟩ := Jvm.LawKit.callS X0 hx (y := (⟨"com/example/ample_gap/amplegap/model/Ranges", "requireFinite", "(Ljava/lang/String;D)D"⟩ : MethodName)) hown (mvT hZ (wT hw 25 rfl)) (mvT hZ (wT hw 26 rfl)) (mvT hZ (wT hw 23 rfl)) (mvT hZ (wT hw 27 rfl)) (by decide) (backOf (W := 0) (rmRf l Z a0 hw [] sa d h0 n0 Z0 n1 n2) hZ (wT hw 27 rfl) (wT hw 23 rfl) (by decide) (by decide)) (g := (mkF m 2 #[.val (.ref sa), .val (.double d), .second] [(.double d), (.ref sa)])) rfl (by rw [hml]; rfl) (argsL := [(.ref sa), (.double d)]) (rest := []) (lenOf own_h14 rfl) rfl (by show 2 * 0 + _ ≤ _; exact Nat.le_of_eq rfl) (hb hby own_h58) (fun _ _ => ⟨rfl, e0, (by decide : 0 + 0 ≤ _), (by decide : 0 + 0 ≤ _)⟩)
  dsimp only [Pt.U, Pt.locs, Pt.cells, Pt.slots] at X37 l_40 y_41 z_42 st43 hQ39
  subst l_40 y_41 z_42
  obtain ⟨rfl, N44, e45⟩ := hQ39
  have N46 := Fr.app N0 N44
  have k2 : own_K p e below (T33.setTop (mkF m 5 #[.val (.ref sa), .val (.double d), .second] [(.double d)])) (s₁.setTop (entryFrame m #[(.ref sa), (.double d)] 3)) := fun t hh => k1 t (st43 t hh)
  have k3 : own_K p e below (T33.setTop (mkF m 28 #[.val (.ref sa), .val (.double d), .second] [(.double d)])) (s₁.setTop (entryFrame m #[(.ref sa), (.double d)] 3)) := fun t hh => k2 t (by
    refine own_pop2 X37.here hx rfl (hb hby own_h59) rfl ?_
    show Steps p.tables e below (T33.setTop (mkF m 6 #[.val (.ref sa), .val (.double d), .second] [])) _
    refine XS.dloadN X37.here hx rfl (hb hby own_h60) rfl ?_
    show Steps p.tables e below (T33.setTop (mkF m 7 #[.val (.ref sa), .val (.double d), .second] [(.double d)])) _
    refine XS.dconst0 X37.here hx rfl (hb hby own_h61) rfl ?_
    show Steps p.tables e below (T33.setTop (mkF m 8 #[.val (.ref sa), .val (.double d), .second] [(.double FP.dconst0), (.double d)])) _
    refine XS.dcmpS X37.here hx rfl (hb hby own_h62) rfl rfl ?_
    show Steps p.tables e below (T33.setTop (mkF m 9 #[.val (.ref sa), .val (.double d), .second] [(.int (cmpValue (FP.dcmp d FP.dconst0) .g))])) _
    refine XS.ifYes X37.here hx rfl (pc0 := 9) (pc' := 27) rfl (hb hby own_h63) rfl (own_ifT_ge n3) (by decide) (by decide) ?_
    show Steps p.tables e below (T33.setTop (mkF m 27 #[.val (.ref sa), .val (.double d), .second] [])) _
    refine XS.dloadN X37.here hx rfl (hb hby own_h71) rfl ?_
    show Steps p.tables e below (T33.setTop (mkF m 28 #[.val (.ref sa), .val (.double d), .second] [(.double d)])) _
    exact hh)
  obtain ⟨fs, hr, hrun, hended, hW, hsame⟩ := X37.leave (v := some (.double d)) (fun h => by rw [Bd.returns] at h; cases h)
  refine ⟨_, _, k3 _ (retOut X37 hx (t := .double) Bd.returns rfl (Or.inr (Or.inr (Or.inl ⟨rfl, rfl, _, rfl⟩))) (hb hby own_h72) hr), hrun, hended, _, _, rfl, ?_, ⟨_, rfl⟩, hW, hsame.mono (by decide) (by decide)⟩
  show QD d h0 n0 _ T33.heap _
  rw [e45]
  exact ⟨rfl, N46, rfl⟩
def QD_ (Z : State) (a : Addr) (d : UInt64) (n z : Int32) (h0 : Heap) (n0 : Nat) (v : Option Value) (h : Heap) (L : List Loc) : Prop := v = none ∧ Fr n0 L ∧ Keep h0 h [a] ∧ Exa Z h a "com/example/ample_gap/amplegap/simulation/Road" ∧ Fld Z h a "com/example/ample_gap/amplegap/simulation/Road" "length" "D" (.double d) ∧ Fld Z h a "com/example/ample_gap/amplegap/simulation/Road" "lanes" "I" (.int n) ∧ Fld Z h a "com/example/ample_gap/amplegap/simulation/Road" "ring" "Z" (.int z) ∧ Fld Z h a "com/example/ample_gap/amplegap/simulation/Road" "onRamp" "Lcom/example/ample_gap/amplegap/simulation/OnRamp;" .null
theorem own_h73 : decode prog_49_method_3_code 0 = .ok (.aload_n 0, 1) := by decide +kernel
theorem own_h74 : decode prog_49_method_3_code 1 = .ok (.invokespecial 7, 3) := by decide +kernel
theorem own_h75 : decode prog_49_method_3_code 4 = .ok (.iload_n 3, 1) := by decide +kernel
theorem own_h76 : decode prog_49_method_3_code 5 = .ok (.iconst 1, 1) := by decide +kernel
theorem own_h77 : decode prog_49_method_3_code 6 = .ok (.if_icmp .lt 9, 3) := by decide +kernel
theorem own_h78 : decode prog_49_method_3_code 9 = .ok (.iload_n 3, 1) := by decide +kernel
theorem own_h79 : decode prog_49_method_3_code 10 = .ok (.bipush 16, 2) := by decide +kernel
theorem own_h80 : decode prog_49_method_3_code 12 = .ok (.if_icmp .le 17, 3) := by decide +kernel
theorem own_h81 : decode prog_49_method_3_code 15 = .ok (.new 12, 3) := by decide +kernel
theorem own_h82 : decode prog_49_method_3_code 18 = .ok (.dup, 1) := by decide +kernel
theorem own_h83 : decode prog_49_method_3_code 19 = .ok (.iload_n 3, 1) := by decide +kernel
theorem own_h84 : decode prog_49_method_3_code 20 = .ok (.invokedynamic 14, 5) := by decide +kernel
theorem own_h85 : decode prog_49_method_3_code 25 = .ok (.invokespecial 18, 3) := by decide +kernel
theorem own_h86 : decode prog_49_method_3_code 28 = .ok (.athrow, 1) := by decide +kernel
theorem own_h87 : decode prog_49_method_3_code 29 = .ok (.aload_n 0, 1) := by decide +kernel
theorem own_h88 : decode prog_49_method_3_code 30 = .ok (.iload 4, 2) := by decide +kernel
theorem own_h89 : decode prog_49_method_3_code 32 = .ok (.ifCond .eq 8, 3) := by decide +kernel
theorem own_h90 : decode prog_49_method_3_code 35 = .ok (.ldc 21, 2) := by decide +kernel
theorem own_h91 : decode prog_49_method_3_code 37 = .ok (.goto 5, 3) := by decide +kernel
theorem own_h92 : decode prog_49_method_3_code 40 = .ok (.ldc 23, 2) := by decide +kernel
theorem own_h93 : decode prog_49_method_3_code 42 = .ok (.dload_n 1, 1) := by decide +kernel
theorem own_h94 : decode prog_49_method_3_code 43 = .ok (.invokestatic 25, 3) := by decide +kernel
theorem own_h95 : decode prog_49_method_3_code 46 = .ok (.putfield 31, 3) := by decide +kernel
theorem own_h96 : decode prog_49_method_3_code 49 = .ok (.aload_n 0, 1) := by decide +kernel
theorem own_h97 : decode prog_49_method_3_code 50 = .ok (.iload_n 3, 1) := by decide +kernel
theorem own_h98 : decode prog_49_method_3_code 51 = .ok (.putfield 35, 3) := by decide +kernel
theorem own_h99 : decode prog_49_method_3_code 54 = .ok (.aload_n 0, 1) := by decide +kernel
theorem own_h100 : decode prog_49_method_3_code 55 = .ok (.iload 4, 2) := by decide +kernel
theorem own_h101 : decode prog_49_method_3_code 57 = .ok (.putfield 39, 3) := by decide +kernel
theorem own_h102 : decode prog_49_method_3_code 60 = .ok (.aload_n 0, 1) := by decide +kernel
theorem own_h103 : decode prog_49_method_3_code 61 = .ok (.aconst_null, 1) := by decide +kernel
theorem own_h104 : decode prog_49_method_3_code 62 = .ok (.putfield 43, 3) := by decide +kernel
theorem own_h105 : decode prog_49_method_3_code 65 = .ok (.return_, 1) := by decide +kernel
theorem own_h106 : plainName "com/example/ample_gap/amplegap/simulation/Road" = true := by first | (simp [plainName, overriddenIn]; done) | decide +kernel
set_option maxRecDepth 65536 in
set_option maxHeartbeats 40000000 in
theorem rmD0 (l : Launch) (Z : State) (a0 : Array Value) (hw : ∀ d ∈ tables_1, d.before a0 Z = true) (ws : List Jvm.Cond) (a : Addr) (d : UInt64) (n : Int32) (h0 : Heap) (n0 : Nat) (Z0 : n0 ≤ h0.size) (E1 : Exa Z h0 a "com/example/ample_gap/amplegap/simulation/Road") (g1 : n0 ≤ a) (F1 : Fld Z h0 a "com/example/ample_gap/amplegap/simulation/Road" "length" "D" (.double (0 : UInt64))) (F2 : Fld Z h0 a "com/example/ample_gap/amplegap/simulation/Road" "lanes" "I" (.int (0 : Int32))) (F3 : Fld Z h0 a "com/example/ample_gap/amplegap/simulation/Road" "ring" "Z" (.int (0 : Int32))) (F4 : Fld Z h0 a "com/example/ample_gap/amplegap/simulation/Road" "onRamp" "Lcom/example/ample_gap/amplegap/simulation/OnRamp;" .null) (n1 : Jvm.Free.Fl.NoNaN64 d) (n2 : (¬ 0 < cmpValue (FP.dcmp (d &&& (0x7fffffffffffffff : UInt64)) (9218868437227405311 : UInt64)) .g)) (n3 : cmpValue (FP.dcmp d FP.dconst0) .g = 1) (q1 : ¬ n < (1 : Int32)) (q2 : ¬ (16 : Int32) < n) :
    MetFree l (⟨"com/example/ample_gap/amplegap/simulation/Road", "<init>", "(DIZ)V"⟩ : MethodName) (head1 (Jvm.Cond.code (⟨"com/example/ample_gap/amplegap/simulation/Road", "<init>", "(DIZ)V"⟩ : MethodName) prog_49_method_3_code 5 none :: ws) ({ frames := 4, cells := 2, slots := 48, locals := 55 } : Room)) (fun ar_ U => ar_ = #[(.ref a), (.double d), (.int n), (.int (0 : Int32))] ∧ Z.Warmed39 U.vm ∧ U.heap = h0) (fun _ _ _ _ _ => True) (fun _ U o U' => ∃ v L, o = .returned v ∧ QD_ Z a d n (0 : Int32) h0 n0 v U'.heap L ∧ ReturnedEndW U o U' L ({ frames := 4, cells := 2, slots := 48, locals := 55 } : Room).cells ({ frames := 4, cells := 2, slots := 48, locals := 55 } : Room).slots) := by
  refine MetFree.of_bodySF (plainFor_of_name own_h106) hisR ?_
  intro p e s m args below meth c s₁ Bd hml0 hP hK
  obtain ⟨rfl, hZ, hh⟩ := hP
  have hx := Bd.exec
  have hby := Bd.bytes
  have hml : c.maxLocals = 5 := hml0
  have hown : s.vm.findClass "com/example/ample_gap/amplegap/simulation/Road" = some m.cls := findClass_of_methodNamed Bd.named
  have hnm := (name_of_methodNamed Bd.named Bd.method).1
  have X0 : Stand p l e ({ frames := 4, cells := 2, slots := 48, locals := 55 } : Room) (s.setVm s.vm) m #[(.ref a), (.double d), (.int n), (.int (0 : Int32))] below meth c s₁ [] 0 0 := Stand.of_body Bd
  have hS0 : s.Since s.vm 0 := (State.WarmedH.refl s).since 0
  have hk0 : 0 ≤ h0.size := Nat.zero_le _
  have hZ : Z.Warmed39 (s.setVm s.vm).vm := hZ
  have hown : (s.setVm s.vm).vm.findClass "com/example/ample_gap/amplegap/simulation/Road" = some m.cls := hown
  have e0 : s₁.heap = h0 := by rw [← hh, Bd.state]; rfl
  have N0 := Fr.nil n0
  have k0 : own_K p e below (s₁.setTop (mkF m 0 #[.val (.ref a), .val (.double d), .second, .val (.int n), .val (.int (0 : Int32))] [])) (s₁.setTop (entryFrame m #[(.ref a), (.double d), (.int n), (.int (0 : Int32))] 5)) := fun t k => castTop (by clear k; first | (simp [entryFrame, mkF, argsToLocals, Value.category, maxLocals]; done) | rfl) k
  have K0 : Keep h0 h0 [a] := Keep.refl _ _
  have k1 : own_K p e below (s₁.setTop (mkF m 1 #[.val (.ref a), .val (.double d), .second, .val (.int n), .val (.int (0 : Int32))] [(.ref a)])) (s₁.setTop (entryFrame m #[(.ref a), (.double d), (.int n), (.int (0 : Int32))] 5)) := fun t hh => k0 t (by
    refine XS.aloadN X0.here hx rfl (hb hby own_h73) rfl rfl ?_
    show Steps p.tables e below (s₁.setTop (mkF m 1 #[.val (.ref a), .val (.double d), .second, .val (.int n), .val (.int (0 : Int32))] [(.ref a)])) _
    exact hh)
  obtain ⟨T47, X48, e49, st50⟩ := initO X0 hx hZ hown (wT hw 10 rfl) (wT hw 11 rfl) (wT hw 12 rfl) e0 (g := (mkF m 1 #[.val (.ref a), .val (.double d), .second, .val (.int n), .val (.int (0 : Int32))] [(.ref a)])) rfl (by rw [hml]; rfl) rfl (hb hby own_h74) (by decide) (W := 0) (by show 2 * 0 + _ ≤ _; exact Nat.le_of_eq rfl) (by decide)
  have k2 : own_K p e below (T47.setTop (mkF m 4 #[.val (.ref a), .val (.double d), .second, .val (.int n), .val (.int (0 : Int32))] [])) (s₁.setTop (entryFrame m #[(.ref a), (.double d), (.int n), (.int (0 : Int32))] 5)) := fun t hh => k1 t (st50 t hh)
  have k3 : own_K p e below (T47.setTop (mkF m 40 #[.val (.ref a), .val (.double d), .second, .val (.int n), .val (.int (0 : Int32))] [(.ref a)])) (s₁.setTop (entryFrame m #[(.ref a), (.double d), (.int n), (.int (0 : Int32))] 5)) := fun t hh => k2 t (by
    refine XS.iloadN X48.here hx rfl (hb hby own_h75) rfl ?_
    show Steps p.tables e below (T47.setTop (mkF m 5 #[.val (.ref a), .val (.double d), .second, .val (.int n), .val (.int (0 : Int32))] [(.int n)])) _
    refine XS.iconst X48.here hx rfl (hb hby own_h76) ?_
    show Steps p.tables e below (T47.setTop (mkF m 6 #[.val (.ref a), .val (.double d), .second, .val (.int n), .val (.int (0 : Int32))] [(.int (1 : Int32)), (.int n)])) _
    refine XS.icmpNo X48.here hx rfl (hb hby own_h77) rfl (own_icF_lt q1) ?_
    show Steps p.tables e below (T47.setTop (mkF m 9 #[.val (.ref a), .val (.double d), .second, .val (.int n), .val (.int (0 : Int32))] [])) _
    refine XS.iloadN X48.here hx rfl (hb hby own_h78) rfl ?_
    show Steps p.tables e below (T47.setTop (mkF m 10 #[.val (.ref a), .val (.double d), .second, .val (.int n), .val (.int (0 : Int32))] [(.int n)])) _
    refine XS.bipush X48.here hx rfl (hb hby own_h79) ?_
    show Steps p.tables e below (T47.setTop (mkF m 12 #[.val (.ref a), .val (.double d), .second, .val (.int n), .val (.int (0 : Int32))] [(.int (16 : Int32)), (.int n)])) _
    refine XS.icmpYes X48.here hx rfl (pc0 := 12) (pc' := 29) rfl (hb hby own_h80) rfl (own_icT_le q2) (by decide) (by decide) ?_
    show Steps p.tables e below (T47.setTop (mkF m 29 #[.val (.ref a), .val (.double d), .second, .val (.int n), .val (.int (0 : Int32))] [])) _
    refine XS.aloadN X48.here hx rfl (hb hby own_h87) rfl rfl ?_
    show Steps p.tables e below (T47.setTop (mkF m 30 #[.val (.ref a), .val (.double d), .second, .val (.int n), .val (.int (0 : Int32))] [(.ref a)])) _
    refine XS.iload X48.here hx rfl (hb hby own_h88) rfl ?_
    show Steps p.tables e below (T47.setTop (mkF m 32 #[.val (.ref a), .val (.double d), .second, .val (.int n), .val (.int (0 : Int32))] [(.int (0 : Int32)), (.ref a)])) _
    refine XS.ifYes X48.here hx rfl (pc0 := 32) (pc' := 40) rfl (hb hby own_h89) rfl (by decide) (by decide) (by decide) ?_
    show Steps p.tables e below (T47.setTop (mkF m 40 #[.val (.ref a), .val (.double d), .second, .val (.int n), .val (.int (0 : Int32))] [(.ref a)])) _
    exact hh)
  obtain ⟨a51, T52, h53, k_54, X55, e56, E57, hS58, hk59, hZ60, hown61, st62⟩ := ldcS X48 hx hZ hown (wT hw 13 rfl) (own_strAtoms hw) e49 hS0 hk0 (g := (mkF m 40 #[.val (.ref a), .val (.double d), .second, .val (.int n), .val (.int (0 : Int32))] [(.ref a)])) rfl (hb hby own_h92) (n := 44) (by decide) (by decide) (by decide) (by decide)
  have F63 := Exa.ext (h' := h53) E57 E1
  have F64 := Fld.ext (h' := h53) E57 F1
  have F65 := Fld.ext (h' := h53) E57 F2
  have F66 := Fld.ext (h' := h53) E57 F3
  have F67 := Fld.ext (h' := h53) E57 F4
  have Z68 : n0 ≤ h53.size := Nat.le_trans Z0 E57.1
  have P69 : Keep h0 h53 [a] := K0.ext E57
  have k4 : own_K p e below (T52.setTop (mkF m 42 #[.val (.ref a), .val (.double d), .second, .val (.int n), .val (.int (0 : Int32))] [(.ref a51), (.ref a)])) (s₁.setTop (entryFrame m #[(.ref a), (.double d), (.int n), (.int (0 : Int32))] 5)) := fun t hh => k3 t (st62 t hh)
  have k5 : own_K p e below (T52.setTop (mkF m 43 #[.val (.ref a), .val (.double d), .second, .val (.int n), .val (.int (0 : Int32))] [(.double d), (.ref a51), (.ref a)])) (s₁.setTop (entryFrame m #[(.ref a), (.double d), (.int n), (.int (0 : Int32))] 5)) := fun t hh => k4 t (by
    refine XS.dloadN X55.here hx rfl (hb hby own_h93) rfl ?_
    show Steps p.tables e below (T52.setTop (mkF m 43 #[.val (.ref a), .val (.double d), .second, .val (.int n), .val (.int (0 : Int32))] [(.double d), (.ref a51), (.ref a)])) _
    exact hh)
  obtain ⟨_, _, ⟨T70, L71, k_72, n_73⟩, -, X74, ⟨Lc75, hQ76, l_77, y_78, z_79⟩, st80⟩ := Jvm.LawKit.callS X55 hx (y := (⟨"com/example/ample_gap/amplegap/model/Ranges", "requirePositive", "(Ljava/lang/String;D)D"⟩ : MethodName)) hown61 (mvT hZ60 (wT hw 21 rfl)) (mvT hZ60 (wT hw 22 rfl)) (mvT hZ60 (wT hw 23 rfl)) (mvT hZ60 (wT hw 24 rfl)) (by decide) (backOf (W := 1) (rmRp l Z a0 hw [] a51 d h53 n0 Z68 n1 n2 n3) hZ60 (wT hw 24 rfl) (wT hw 23 rfl) (by decide) (by decide)) (g := (mkF m 43 #[.val (.ref a), .val (.double d), .second, .val (.int n), .val (.int (0 : Int32))] [(.double d), (.ref a51), (.ref a)])) rfl (by rw [hml]; rfl) (argsL := [(.ref a51), (.double d)]) (rest := [(.ref a)]) (lenOf own_h14 rfl) rfl (by show 2 * 0 + _ ≤ _; exact Nat.le_of_eq rfl) (hb hby own_h94) (fun _ _ => ⟨rfl, e56, (by decide : 2 + 0 ≤ _), (by decide : 48 + 0 ≤ _)⟩)
  dsimp only [Pt.U, Pt.locs, Pt.cells, Pt.slots] at X74 l_77 y_78 z_79 st80 hQ76
  subst l_77 y_78 z_79
  obtain ⟨rfl, N81, e82⟩ := hQ76
  have N83 := Fr.app N0 N81
  have k6 : own_K p e below (T70.setTop (mkF m 46 #[.val (.ref a), .val (.double d), .second, .val (.int n), .val (.int (0 : Int32))] [(.double d), (.ref a)])) (s₁.setTop (entryFrame m #[(.ref a), (.double d), (.int n), (.int (0 : Int32))] 5)) := fun t hh => k5 t (st80 t hh)
  obtain ⟨T84, h85, X86, e87, W88, st89⟩ := putF X74 hx hZ60 hown61 (host := "") (Or.inl (wT hw 37 rfl)) Via.refl e82 F64 F63 (Or.inr ⟨(wT hw 38 rfl), rfl, hnm⟩) (wT hw 2 rfl) (ty := .double) (by decide) rfl rfl (g := (mkF m 46 #[.val (.ref a), .val (.double d), .second, .val (.int n), .val (.int (0 : Int32))] [(.double d), (.ref a)])) rfl rfl (hb hby own_h95)
  have N90 := Fr.snoc X86 N83 g1
  have hk91 := Nat.le_trans hk59 (show h53.size ≤ h85.size from Nat.le_of_eq W88.size.symm)
  have F92 := Exa.wr W88 F63
  have F93 : Fld Z h85 a "com/example/ample_gap/amplegap/simulation/Road" "length" "D" (.double d) := Fld.same W88 F64
  have F94 := Fld.other W88 F65 (Or.inr (slot_ne (Or.inr (wT hw 40 rfl)) (Or.inr (wT hw 38 rfl)) (by decide) (t := .int) (t' := .double) (by decide) (by decide)))
  have F95 := Fld.other W88 F66 (Or.inr (slot_ne (Or.inr (wT hw 42 rfl)) (Or.inr (wT hw 38 rfl)) (by decide) (t := .boolean) (t' := .double) (by decide) (by decide)))
  have F96 := Fld.other W88 F67 (Or.inr (slot_ne (Or.inr (wT hw 44 rfl)) (Or.inr (wT hw 38 rfl)) (by decide) (t := (.object "com/example/ample_gap/amplegap/simulation/OnRamp")) (t' := .double) (by decide) (by decide)))
  have Z97 : n0 ≤ h85.size := W88.size ▸ Z68
  have P98 : Keep h0 h85 [a] := P69.wr W88 (Or.inl (List.mem_of_getElem? (i := 0) rfl))
  have k7 : own_K p e below (T84.setTop (mkF m 49 #[.val (.ref a), .val (.double d), .second, .val (.int n), .val (.int (0 : Int32))] [])) (s₁.setTop (entryFrame m #[(.ref a), (.double d), (.int n), (.int (0 : Int32))] 5)) := fun t hh => k6 t (st89 t hh)
  have k8 : own_K p e below (T84.setTop (mkF m 51 #[.val (.ref a), .val (.double d), .second, .val (.int n), .val (.int (0 : Int32))] [(.int n), (.ref a)])) (s₁.setTop (entryFrame m #[(.ref a), (.double d), (.int n), (.int (0 : Int32))] 5)) := fun t hh => k7 t (by
    refine XS.aloadN X86.here hx rfl (hb hby own_h96) rfl rfl ?_
    show Steps p.tables e below (T84.setTop (mkF m 50 #[.val (.ref a), .val (.double d), .second, .val (.int n), .val (.int (0 : Int32))] [(.ref a)])) _
    refine XS.iloadN X86.here hx rfl (hb hby own_h97) rfl ?_
    show Steps p.tables e below (T84.setTop (mkF m 51 #[.val (.ref a), .val (.double d), .second, .val (.int n), .val (.int (0 : Int32))] [(.int n), (.ref a)])) _
    exact hh)
  obtain ⟨T99, h100, X101, e102, W103, st104⟩ := putF X86 hx hZ60 hown61 (host := "") (Or.inl (wT hw 39 rfl)) Via.refl e87 F94 F92 (Or.inr ⟨(wT hw 40 rfl), rfl, hnm⟩) (wT hw 2 rfl) (ty := .int) (by decide) rfl rfl (g := (mkF m 51 #[.val (.ref a), .val (.double d), .second, .val (.int n), .val (.int (0 : Int32))] [(.int n), (.ref a)])) rfl rfl (hb hby own_h98)
  have N105 := Fr.snoc X101 N90 g1
  have hk106 := Nat.le_trans hk91 (show h85.size ≤ h100.size from Nat.le_of_eq W103.size.symm)
  have F107 := Exa.wr W103 F92
  have F108 := Fld.other W103 F93 (Or.inr (slot_ne (Or.inr (wT hw 38 rfl)) (Or.inr (wT hw 40 rfl)) (by decide) (t := .double) (t' := .int) (by decide) (by decide)))
  have F109 : Fld Z h100 a "com/example/ample_gap/amplegap/simulation/Road" "lanes" "I" (.int n) := Fld.same W103 F94
  have F110 := Fld.other W103 F95 (Or.inr (slot_ne (Or.inr (wT hw 42 rfl)) (Or.inr (wT hw 40 rfl)) (by decide) (t := .boolean) (t' := .int) (by decide) (by decide)))
  have F111 := Fld.other W103 F96 (Or.inr (slot_ne (Or.inr (wT hw 44 rfl)) (Or.inr (wT hw 40 rfl)) (by decide) (t := (.object "com/example/ample_gap/amplegap/simulation/OnRamp")) (t' := .int) (by decide) (by decide)))
  have Z112 : n0 ≤ h100.size := W103.size ▸ Z97
  have P113 : Keep h0 h100 [a] := P98.wr W103 (Or.inl (List.mem_of_getElem? (i := 0) rfl))
  have k9 : own_K p e below (T99.setTop (mkF m 54 #[.val (.ref a), .val (.double d), .second, .val (.int n), .val (.int (0 : Int32))] [])) (s₁.setTop (entryFrame m #[(.ref a), (.double d), (.int n), (.int (0 : Int32))] 5)) := fun t hh => k8 t (st104 t hh)
  have k10 : own_K p e below (T99.setTop (mkF m 57 #[.val (.ref a), .val (.double d), .second, .val (.int n), .val (.int (0 : Int32))] [(.int (0 : Int32)), (.ref a)])) (s₁.setTop (entryFrame m #[(.ref a), (.double d), (.int n), (.int (0 : Int32))] 5)) := fun t hh => k9 t (by
    refine XS.aloadN X101.here hx rfl (hb hby own_h99) rfl rfl ?_
    show Steps p.tables e below (T99.setTop (mkF m 55 #[.val (.ref a), .val (.double d), .second, .val (.int n), .val (.int (0 : Int32))] [(.ref a)])) _
    refine XS.iload X101.here hx rfl (hb hby own_h100) rfl ?_
    show Steps p.tables e below (T99.setTop (mkF m 57 #[.val (.ref a), .val (.double d), .second, .val (.int n), .val (.int (0 : Int32))] [(.int (0 : Int32)), (.ref a)])) _
    exact hh)
  obtain ⟨T114, h115, X116, e117, W118, st119⟩ := putF X101 hx hZ60 hown61 (host := "") (Or.inl (wT hw 41 rfl)) Via.refl e102 F110 F107 (Or.inr ⟨(wT hw 42 rfl), rfl, hnm⟩) (wT hw 2 rfl) (ty := .boolean) (by decide) rfl rfl (g := (mkF m 57 #[.val (.ref a), .val (.double d), .second, .val (.int n), .val (.int (0 : Int32))] [(.int (0 : Int32)), (.ref a)])) rfl rfl (hb hby own_h101)
  have N120 := Fr.snoc X116 N105 g1
  have hk121 := Nat.le_trans hk106 (show h100.size ≤ h115.size from Nat.le_of_eq W118.size.symm)
  have F122 := Exa.wr W118 F107
  have F123 := Fld.other W118 F108 (Or.inr (slot_ne (Or.inr (wT hw 38 rfl)) (Or.inr (wT hw 42 rfl)) (by decide) (t := .double) (t' := .boolean) (by decide) (by decide)))
  have F124 := Fld.other W118 F109 (Or.inr (slot_ne (Or.inr (wT hw 40 rfl)) (Or.inr (wT hw 42 rfl)) (by decide) (t := .int) (t' := .boolean) (by decide) (by decide)))
  have F125 : Fld Z h115 a "com/example/ample_gap/amplegap/simulation/Road" "ring" "Z" (.int (0 : Int32)) := Fld.same W118 F110
  have F126 := Fld.other W118 F111 (Or.inr (slot_ne (Or.inr (wT hw 44 rfl)) (Or.inr (wT hw 42 rfl)) (by decide) (t := (.object "com/example/ample_gap/amplegap/simulation/OnRamp")) (t' := .boolean) (by decide) (by decide)))
  have Z127 : n0 ≤ h115.size := W118.size ▸ Z112
  have P128 : Keep h0 h115 [a] := P113.wr W118 (Or.inl (List.mem_of_getElem? (i := 0) rfl))
  have k11 : own_K p e below (T114.setTop (mkF m 60 #[.val (.ref a), .val (.double d), .second, .val (.int n), .val (.int (0 : Int32))] [])) (s₁.setTop (entryFrame m #[(.ref a), (.double d), (.int n), (.int (0 : Int32))] 5)) := fun t hh => k10 t (st119 t hh)
  have k12 : own_K p e below (T114.setTop (mkF m 62 #[.val (.ref a), .val (.double d), .second, .val (.int n), .val (.int (0 : Int32))] [.null, (.ref a)])) (s₁.setTop (entryFrame m #[(.ref a), (.double d), (.int n), (.int (0 : Int32))] 5)) := fun t hh => k11 t (by
    refine XS.aloadN X116.here hx rfl (hb hby own_h102) rfl rfl ?_
    show Steps p.tables e below (T114.setTop (mkF m 61 #[.val (.ref a), .val (.double d), .second, .val (.int n), .val (.int (0 : Int32))] [(.ref a)])) _
    refine XS.aconstNull X116.here hx rfl (hb hby own_h103) ?_
    show Steps p.tables e below (T114.setTop (mkF m 62 #[.val (.ref a), .val (.double d), .second, .val (.int n), .val (.int (0 : Int32))] [.null, (.ref a)])) _
    exact hh)
  obtain ⟨T129, h130, X131, e132, W133, st134⟩ := putF X116 hx hZ60 hown61 (host := "") (Or.inl (wT hw 43 rfl)) Via.refl e117 F126 F122 (Or.inr ⟨(wT hw 44 rfl), rfl, hnm⟩) (wT hw 2 rfl) (ty := .object "com/example/ample_gap/amplegap/simulation/OnRamp") (by decide) rfl rfl (g := (mkF m 62 #[.val (.ref a), .val (.double d), .second, .val (.int n), .val (.int (0 : Int32))] [.null, (.ref a)])) rfl rfl (hb hby own_h104)
  have N135 := Fr.snoc X131 N120 g1
  have hk136 := Nat.le_trans hk121 (show h115.size ≤ h130.size from Nat.le_of_eq W133.size.symm)
  have F137 := Exa.wr W133 F122
  have F138 := Fld.other W133 F123 (Or.inr (slot_ne (Or.inr (wT hw 38 rfl)) (Or.inr (wT hw 44 rfl)) (by decide) (t := .double) (t' := (.object "com/example/ample_gap/amplegap/simulation/OnRamp")) (by decide) (by decide)))
  have F139 := Fld.other W133 F124 (Or.inr (slot_ne (Or.inr (wT hw 40 rfl)) (Or.inr (wT hw 44 rfl)) (by decide) (t := .int) (t' := (.object "com/example/ample_gap/amplegap/simulation/OnRamp")) (by decide) (by decide)))
  have F140 := Fld.other W133 F125 (Or.inr (slot_ne (Or.inr (wT hw 42 rfl)) (Or.inr (wT hw 44 rfl)) (by decide) (t := .boolean) (t' := (.object "com/example/ample_gap/amplegap/simulation/OnRamp")) (by decide) (by decide)))
  have F141 : Fld Z h130 a "com/example/ample_gap/amplegap/simulation/Road" "onRamp" "Lcom/example/ample_gap/amplegap/simulation/OnRamp;" .null := Fld.same W133 F126
  have Z142 : n0 ≤ h130.size := W133.size ▸ Z127
  have P143 : Keep h0 h130 [a] := P128.wr W133 (Or.inl (List.mem_of_getElem? (i := 0) rfl))
  have k13 : own_K p e below (T129.setTop (mkF m 65 #[.val (.ref a), .val (.double d), .second, .val (.int n), .val (.int (0 : Int32))] [])) (s₁.setTop (entryFrame m #[(.ref a), (.double d), (.int n), (.int (0 : Int32))] 5)) := fun t hh => k12 t (st134 t hh)
  obtain ⟨fs, hr, hrun, hended, hEnd⟩ := X131.leaveW hS58 (by rw [e132]; exact hk136) (v := none) (fun _ => rfl)
  refine ⟨_, _, k13 _ (X131.returnOut hx Bd.returns (hb hby own_h105) hr), hrun, hended, _, _, rfl, ?_, hEnd.1, hEnd.2.1, hEnd.2.2.1, hEnd.2.2.2.mono (by decide) (by decide)⟩
  show QD_ Z a d n (0 : Int32) h0 n0 _ T129.heap _
  rw [e132]
  exact ⟨rfl, N135, P143, F137, F138, F139, F140, F141⟩
set_option maxRecDepth 65536 in
set_option maxHeartbeats 40000000 in
theorem rmD1 (l : Launch) (Z : State) (a0 : Array Value) (hw : ∀ d ∈ tables_1, d.before a0 Z = true) (ws : List Jvm.Cond) (a : Addr) (d : UInt64) (n : Int32) (h0 : Heap) (n0 : Nat) (Z0 : n0 ≤ h0.size) (E1 : Exa Z h0 a "com/example/ample_gap/amplegap/simulation/Road") (g1 : n0 ≤ a) (F1 : Fld Z h0 a "com/example/ample_gap/amplegap/simulation/Road" "length" "D" (.double (0 : UInt64))) (F2 : Fld Z h0 a "com/example/ample_gap/amplegap/simulation/Road" "lanes" "I" (.int (0 : Int32))) (F3 : Fld Z h0 a "com/example/ample_gap/amplegap/simulation/Road" "ring" "Z" (.int (0 : Int32))) (F4 : Fld Z h0 a "com/example/ample_gap/amplegap/simulation/Road" "onRamp" "Lcom/example/ample_gap/amplegap/simulation/OnRamp;" .null) (n1 : Jvm.Free.Fl.NoNaN64 d) (n2 : (¬ 0 < cmpValue (FP.dcmp (d &&& (0x7fffffffffffffff : UInt64)) (9218868437227405311 : UInt64)) .g)) (n3 : cmpValue (FP.dcmp d FP.dconst0) .g = 1) (q1 : ¬ n < (1 : Int32)) (q2 : ¬ (16 : Int32) < n) :
    MetFree l (⟨"com/example/ample_gap/amplegap/simulation/Road", "<init>", "(DIZ)V"⟩ : MethodName) (head1 (Jvm.Cond.code (⟨"com/example/ample_gap/amplegap/simulation/Road", "<init>", "(DIZ)V"⟩ : MethodName) prog_49_method_3_code 5 none :: ws) ({ frames := 4, cells := 2, slots := 76, locals := 55 } : Room)) (fun ar_ U => ar_ = #[(.ref a), (.double d), (.int n), (.int (1 : Int32))] ∧ Z.Warmed39 U.vm ∧ U.heap = h0) (fun _ _ _ _ _ => True) (fun _ U o U' => ∃ v L, o = .returned v ∧ QD_ Z a d n (1 : Int32) h0 n0 v U'.heap L ∧ ReturnedEndW U o U' L ({ frames := 4, cells := 2, slots := 76, locals := 55 } : Room).cells ({ frames := 4, cells := 2, slots := 76, locals := 55 } : Room).slots) := by
  refine MetFree.of_bodySF (plainFor_of_name own_h106) hisR ?_
  intro p e s m args below meth c s₁ Bd hml0 hP hK
  obtain ⟨rfl, hZ, hh⟩ := hP
  have hx := Bd.exec
  have hby := Bd.bytes
  have hml : c.maxLocals = 5 := hml0
  have hown : s.vm.findClass "com/example/ample_gap/amplegap/simulation/Road" = some m.cls := findClass_of_methodNamed Bd.named
  have hnm := (name_of_methodNamed Bd.named Bd.method).1
  have X0 : Stand p l e ({ frames := 4, cells := 2, slots := 76, locals := 55 } : Room) (s.setVm s.vm) m #[(.ref a), (.double d), (.int n), (.int (1 : Int32))] below meth c s₁ [] 0 0 := Stand.of_body Bd
  have hS0 : s.Since s.vm 0 := (State.WarmedH.refl s).since 0
  have hk0 : 0 ≤ h0.size := Nat.zero_le _
  have hZ : Z.Warmed39 (s.setVm s.vm).vm := hZ
  have hown : (s.setVm s.vm).vm.findClass "com/example/ample_gap/amplegap/simulation/Road" = some m.cls := hown
  have e0 : s₁.heap = h0 := by rw [← hh, Bd.state]; rfl
  have N0 := Fr.nil n0
  have k0 : own_K p e below (s₁.setTop (mkF m 0 #[.val (.ref a), .val (.double d), .second, .val (.int n), .val (.int (1 : Int32))] [])) (s₁.setTop (entryFrame m #[(.ref a), (.double d), (.int n), (.int (1 : Int32))] 5)) := fun t k => castTop (by clear k; first | (simp [entryFrame, mkF, argsToLocals, Value.category, maxLocals]; done) | rfl) k
  have K0 : Keep h0 h0 [a] := Keep.refl _ _
  have k1 : own_K p e below (s₁.setTop (mkF m 1 #[.val (.ref a), .val (.double d), .second, .val (.int n), .val (.int (1 : Int32))] [(.ref a)])) (s₁.setTop (entryFrame m #[(.ref a), (.double d), (.int n), (.int (1 : Int32))] 5)) := fun t hh => k0 t (by
    refine XS.aloadN X0.here hx rfl (hb hby own_h73) rfl rfl ?_
    show Steps p.tables e below (s₁.setTop (mkF m 1 #[.val (.ref a), .val (.double d), .second, .val (.int n), .val (.int (1 : Int32))] [(.ref a)])) _
    exact hh)
  obtain ⟨T144, X145, e146, st147⟩ := initO X0 hx hZ hown (wT hw 10 rfl) (wT hw 11 rfl) (wT hw 12 rfl) e0 (g := (mkF m 1 #[.val (.ref a), .val (.double d), .second, .val (.int n), .val (.int (1 : Int32))] [(.ref a)])) rfl (by rw [hml]; rfl) rfl (hb hby own_h74) (by decide) (W := 0) (by show 2 * 0 + _ ≤ _; exact Nat.le_of_eq rfl) (by decide)
  have k2 : own_K p e below (T144.setTop (mkF m 4 #[.val (.ref a), .val (.double d), .second, .val (.int n), .val (.int (1 : Int32))] [])) (s₁.setTop (entryFrame m #[(.ref a), (.double d), (.int n), (.int (1 : Int32))] 5)) := fun t hh => k1 t (st147 t hh)
  have k3 : own_K p e below (T144.setTop (mkF m 35 #[.val (.ref a), .val (.double d), .second, .val (.int n), .val (.int (1 : Int32))] [(.ref a)])) (s₁.setTop (entryFrame m #[(.ref a), (.double d), (.int n), (.int (1 : Int32))] 5)) := fun t hh => k2 t (by
    refine XS.iloadN X145.here hx rfl (hb hby own_h75) rfl ?_
    show Steps p.tables e below (T144.setTop (mkF m 5 #[.val (.ref a), .val (.double d), .second, .val (.int n), .val (.int (1 : Int32))] [(.int n)])) _
    refine XS.iconst X145.here hx rfl (hb hby own_h76) ?_
    show Steps p.tables e below (T144.setTop (mkF m 6 #[.val (.ref a), .val (.double d), .second, .val (.int n), .val (.int (1 : Int32))] [(.int (1 : Int32)), (.int n)])) _
    refine XS.icmpNo X145.here hx rfl (hb hby own_h77) rfl (own_icF_lt q1) ?_
    show Steps p.tables e below (T144.setTop (mkF m 9 #[.val (.ref a), .val (.double d), .second, .val (.int n), .val (.int (1 : Int32))] [])) _
    refine XS.iloadN X145.here hx rfl (hb hby own_h78) rfl ?_
    show Steps p.tables e below (T144.setTop (mkF m 10 #[.val (.ref a), .val (.double d), .second, .val (.int n), .val (.int (1 : Int32))] [(.int n)])) _
    refine XS.bipush X145.here hx rfl (hb hby own_h79) ?_
    show Steps p.tables e below (T144.setTop (mkF m 12 #[.val (.ref a), .val (.double d), .second, .val (.int n), .val (.int (1 : Int32))] [(.int (16 : Int32)), (.int n)])) _
    refine XS.icmpYes X145.here hx rfl (pc0 := 12) (pc' := 29) rfl (hb hby own_h80) rfl (own_icT_le q2) (by decide) (by decide) ?_
    show Steps p.tables e below (T144.setTop (mkF m 29 #[.val (.ref a), .val (.double d), .second, .val (.int n), .val (.int (1 : Int32))] [])) _
    refine XS.aloadN X145.here hx rfl (hb hby own_h87) rfl rfl ?_
    show Steps p.tables e below (T144.setTop (mkF m 30 #[.val (.ref a), .val (.double d), .second, .val (.int n), .val (.int (1 : Int32))] [(.ref a)])) _
    refine XS.iload X145.here hx rfl (hb hby own_h88) rfl ?_
    show Steps p.tables e below (T144.setTop (mkF m 32 #[.val (.ref a), .val (.double d), .second, .val (.int n), .val (.int (1 : Int32))] [(.int (1 : Int32)), (.ref a)])) _
    refine XS.ifNo X145.here hx rfl (hb hby own_h89) rfl (by decide) ?_
    show Steps p.tables e below (T144.setTop (mkF m 35 #[.val (.ref a), .val (.double d), .second, .val (.int n), .val (.int (1 : Int32))] [(.ref a)])) _
    exact hh)
  obtain ⟨a148, T149, h150, k_151, X152, e153, E154, hS155, hk156, hZ157, hown158, st159⟩ := ldcS X145 hx hZ hown (wT hw 59 rfl) (own_strAtoms hw) e146 hS0 hk0 (g := (mkF m 35 #[.val (.ref a), .val (.double d), .second, .val (.int n), .val (.int (1 : Int32))] [(.ref a)])) rfl (hb hby own_h90) (n := 72) (by decide) (by decide) (by decide) (by decide)
  have F160 := Exa.ext (h' := h150) E154 E1
  have F161 := Fld.ext (h' := h150) E154 F1
  have F162 := Fld.ext (h' := h150) E154 F2
  have F163 := Fld.ext (h' := h150) E154 F3
  have F164 := Fld.ext (h' := h150) E154 F4
  have Z165 : n0 ≤ h150.size := Nat.le_trans Z0 E154.1
  have P166 : Keep h0 h150 [a] := K0.ext E154
  have k4 : own_K p e below (T149.setTop (mkF m 37 #[.val (.ref a), .val (.double d), .second, .val (.int n), .val (.int (1 : Int32))] [(.ref a148), (.ref a)])) (s₁.setTop (entryFrame m #[(.ref a), (.double d), (.int n), (.int (1 : Int32))] 5)) := fun t hh => k3 t (st159 t hh)
  have k5 : own_K p e below (T149.setTop (mkF m 43 #[.val (.ref a), .val (.double d), .second, .val (.int n), .val (.int (1 : Int32))] [(.double d), (.ref a148), (.ref a)])) (s₁.setTop (entryFrame m #[(.ref a), (.double d), (.int n), (.int (1 : Int32))] 5)) := fun t hh => k4 t (by
    refine XS.goto X152.here hx rfl (pc0 := 37) (pc' := 42) rfl (hb hby own_h91) (by decide) (by decide) ?_
    show Steps p.tables e below (T149.setTop (mkF m 42 #[.val (.ref a), .val (.double d), .second, .val (.int n), .val (.int (1 : Int32))] [(.ref a148), (.ref a)])) _
    refine XS.dloadN X152.here hx rfl (hb hby own_h93) rfl ?_
    show Steps p.tables e below (T149.setTop (mkF m 43 #[.val (.ref a), .val (.double d), .second, .val (.int n), .val (.int (1 : Int32))] [(.double d), (.ref a148), (.ref a)])) _
    exact hh)
  obtain ⟨_, _, ⟨T167, L168, k_169, n_170⟩, -, X171, ⟨Lc172, hQ173, l_174, y_175, z_176⟩, st177⟩ := Jvm.LawKit.callS X152 hx (y := (⟨"com/example/ample_gap/amplegap/model/Ranges", "requirePositive", "(Ljava/lang/String;D)D"⟩ : MethodName)) hown158 (mvT hZ157 (wT hw 21 rfl)) (mvT hZ157 (wT hw 22 rfl)) (mvT hZ157 (wT hw 23 rfl)) (mvT hZ157 (wT hw 24 rfl)) (by decide) (backOf (W := 1) (rmRp l Z a0 hw [] a148 d h150 n0 Z165 n1 n2 n3) hZ157 (wT hw 24 rfl) (wT hw 23 rfl) (by decide) (by decide)) (g := (mkF m 43 #[.val (.ref a), .val (.double d), .second, .val (.int n), .val (.int (1 : Int32))] [(.double d), (.ref a148), (.ref a)])) rfl (by rw [hml]; rfl) (argsL := [(.ref a148), (.double d)]) (rest := [(.ref a)]) (lenOf own_h14 rfl) rfl (by show 2 * 0 + _ ≤ _; exact Nat.le_of_eq rfl) (hb hby own_h94) (fun _ _ => ⟨rfl, e153, (by decide : 2 + 0 ≤ _), (by decide : 76 + 0 ≤ _)⟩)
  dsimp only [Pt.U, Pt.locs, Pt.cells, Pt.slots] at X171 l_174 y_175 z_176 st177 hQ173
  subst l_174 y_175 z_176
  obtain ⟨rfl, N178, e179⟩ := hQ173
  have N180 := Fr.app N0 N178
  have k6 : own_K p e below (T167.setTop (mkF m 46 #[.val (.ref a), .val (.double d), .second, .val (.int n), .val (.int (1 : Int32))] [(.double d), (.ref a)])) (s₁.setTop (entryFrame m #[(.ref a), (.double d), (.int n), (.int (1 : Int32))] 5)) := fun t hh => k5 t (st177 t hh)
  obtain ⟨T181, h182, X183, e184, W185, st186⟩ := putF X171 hx hZ157 hown158 (host := "") (Or.inl (wT hw 37 rfl)) Via.refl e179 F161 F160 (Or.inr ⟨(wT hw 38 rfl), rfl, hnm⟩) (wT hw 2 rfl) (ty := .double) (by decide) rfl rfl (g := (mkF m 46 #[.val (.ref a), .val (.double d), .second, .val (.int n), .val (.int (1 : Int32))] [(.double d), (.ref a)])) rfl rfl (hb hby own_h95)
  have N187 := Fr.snoc X183 N180 g1
  have hk188 := Nat.le_trans hk156 (show h150.size ≤ h182.size from Nat.le_of_eq W185.size.symm)
  have F189 := Exa.wr W185 F160
  have F190 : Fld Z h182 a "com/example/ample_gap/amplegap/simulation/Road" "length" "D" (.double d) := Fld.same W185 F161
  have F191 := Fld.other W185 F162 (Or.inr (slot_ne (Or.inr (wT hw 40 rfl)) (Or.inr (wT hw 38 rfl)) (by decide) (t := .int) (t' := .double) (by decide) (by decide)))
  have F192 := Fld.other W185 F163 (Or.inr (slot_ne (Or.inr (wT hw 42 rfl)) (Or.inr (wT hw 38 rfl)) (by decide) (t := .boolean) (t' := .double) (by decide) (by decide)))
  have F193 := Fld.other W185 F164 (Or.inr (slot_ne (Or.inr (wT hw 44 rfl)) (Or.inr (wT hw 38 rfl)) (by decide) (t := (.object "com/example/ample_gap/amplegap/simulation/OnRamp")) (t' := .double) (by decide) (by decide)))
  have Z194 : n0 ≤ h182.size := W185.size ▸ Z165
  have P195 : Keep h0 h182 [a] := P166.wr W185 (Or.inl (List.mem_of_getElem? (i := 0) rfl))
  have k7 : own_K p e below (T181.setTop (mkF m 49 #[.val (.ref a), .val (.double d), .second, .val (.int n), .val (.int (1 : Int32))] [])) (s₁.setTop (entryFrame m #[(.ref a), (.double d), (.int n), (.int (1 : Int32))] 5)) := fun t hh => k6 t (st186 t hh)
  have k8 : own_K p e below (T181.setTop (mkF m 51 #[.val (.ref a), .val (.double d), .second, .val (.int n), .val (.int (1 : Int32))] [(.int n), (.ref a)])) (s₁.setTop (entryFrame m #[(.ref a), (.double d), (.int n), (.int (1 : Int32))] 5)) := fun t hh => k7 t (by
    refine XS.aloadN X183.here hx rfl (hb hby own_h96) rfl rfl ?_
    show Steps p.tables e below (T181.setTop (mkF m 50 #[.val (.ref a), .val (.double d), .second, .val (.int n), .val (.int (1 : Int32))] [(.ref a)])) _
    refine XS.iloadN X183.here hx rfl (hb hby own_h97) rfl ?_
    show Steps p.tables e below (T181.setTop (mkF m 51 #[.val (.ref a), .val (.double d), .second, .val (.int n), .val (.int (1 : Int32))] [(.int n), (.ref a)])) _
    exact hh)
  obtain ⟨T196, h197, X198, e199, W200, st201⟩ := putF X183 hx hZ157 hown158 (host := "") (Or.inl (wT hw 39 rfl)) Via.refl e184 F191 F189 (Or.inr ⟨(wT hw 40 rfl), rfl, hnm⟩) (wT hw 2 rfl) (ty := .int) (by decide) rfl rfl (g := (mkF m 51 #[.val (.ref a), .val (.double d), .second, .val (.int n), .val (.int (1 : Int32))] [(.int n), (.ref a)])) rfl rfl (hb hby own_h98)
  have N202 := Fr.snoc X198 N187 g1
  have hk203 := Nat.le_trans hk188 (show h182.size ≤ h197.size from Nat.le_of_eq W200.size.symm)
  have F204 := Exa.wr W200 F189
  have F205 := Fld.other W200 F190 (Or.inr (slot_ne (Or.inr (wT hw 38 rfl)) (Or.inr (wT hw 40 rfl)) (by decide) (t := .double) (t' := .int) (by decide) (by decide)))
  have F206 : Fld Z h197 a "com/example/ample_gap/amplegap/simulation/Road" "lanes" "I" (.int n) := Fld.same W200 F191
  have F207 := Fld.other W200 F192 (Or.inr (slot_ne (Or.inr (wT hw 42 rfl)) (Or.inr (wT hw 40 rfl)) (by decide) (t := .boolean) (t' := .int) (by decide) (by decide)))
  have F208 := Fld.other W200 F193 (Or.inr (slot_ne (Or.inr (wT hw 44 rfl)) (Or.inr (wT hw 40 rfl)) (by decide) (t := (.object "com/example/ample_gap/amplegap/simulation/OnRamp")) (t' := .int) (by decide) (by decide)))
  have Z209 : n0 ≤ h197.size := W200.size ▸ Z194
  have P210 : Keep h0 h197 [a] := P195.wr W200 (Or.inl (List.mem_of_getElem? (i := 0) rfl))
  have k9 : own_K p e below (T196.setTop (mkF m 54 #[.val (.ref a), .val (.double d), .second, .val (.int n), .val (.int (1 : Int32))] [])) (s₁.setTop (entryFrame m #[(.ref a), (.double d), (.int n), (.int (1 : Int32))] 5)) := fun t hh => k8 t (st201 t hh)
  have k10 : own_K p e below (T196.setTop (mkF m 57 #[.val (.ref a), .val (.double d), .second, .val (.int n), .val (.int (1 : Int32))] [(.int (1 : Int32)), (.ref a)])) (s₁.setTop (entryFrame m #[(.ref a), (.double d), (.int n), (.int (1 : Int32))] 5)) := fun t hh => k9 t (by
    refine XS.aloadN X198.here hx rfl (hb hby own_h99) rfl rfl ?_
    show Steps p.tables e below (T196.setTop (mkF m 55 #[.val (.ref a), .val (.double d), .second, .val (.int n), .val (.int (1 : Int32))] [(.ref a)])) _
    refine XS.iload X198.here hx rfl (hb hby own_h100) rfl ?_
    show Steps p.tables e below (T196.setTop (mkF m 57 #[.val (.ref a), .val (.double d), .second, .val (.int n), .val (.int (1 : Int32))] [(.int (1 : Int32)), (.ref a)])) _
    exact hh)
  obtain ⟨T211, h212, X213, e214, W215, st216⟩ := putF X198 hx hZ157 hown158 (host := "") (Or.inl (wT hw 41 rfl)) Via.refl e199 F207 F204 (Or.inr ⟨(wT hw 42 rfl), rfl, hnm⟩) (wT hw 2 rfl) (ty := .boolean) (by decide) rfl rfl (g := (mkF m 57 #[.val (.ref a), .val (.double d), .second, .val (.int n), .val (.int (1 : Int32))] [(.int (1 : Int32)), (.ref a)])) rfl rfl (hb hby own_h101)
  have N217 := Fr.snoc X213 N202 g1
  have hk218 := Nat.le_trans hk203 (show h197.size ≤ h212.size from Nat.le_of_eq W215.size.symm)
  have F219 := Exa.wr W215 F204
  have F220 := Fld.other W215 F205 (Or.inr (slot_ne (Or.inr (wT hw 38 rfl)) (Or.inr (wT hw 42 rfl)) (by decide) (t := .double) (t' := .boolean) (by decide) (by decide)))
  have F221 := Fld.other W215 F206 (Or.inr (slot_ne (Or.inr (wT hw 40 rfl)) (Or.inr (wT hw 42 rfl)) (by decide) (t := .int) (t' := .boolean) (by decide) (by decide)))
  have F222 : Fld Z h212 a "com/example/ample_gap/amplegap/simulation/Road" "ring" "Z" (.int (1 : Int32)) := Fld.same W215 F207
  have F223 := Fld.other W215 F208 (Or.inr (slot_ne (Or.inr (wT hw 44 rfl)) (Or.inr (wT hw 42 rfl)) (by decide) (t := (.object "com/example/ample_gap/amplegap/simulation/OnRamp")) (t' := .boolean) (by decide) (by decide)))
  have Z224 : n0 ≤ h212.size := W215.size ▸ Z209
  have P225 : Keep h0 h212 [a] := P210.wr W215 (Or.inl (List.mem_of_getElem? (i := 0) rfl))
  have k11 : own_K p e below (T211.setTop (mkF m 60 #[.val (.ref a), .val (.double d), .second, .val (.int n), .val (.int (1 : Int32))] [])) (s₁.setTop (entryFrame m #[(.ref a), (.double d), (.int n), (.int (1 : Int32))] 5)) := fun t hh => k10 t (st216 t hh)
  have k12 : own_K p e below (T211.setTop (mkF m 62 #[.val (.ref a), .val (.double d), .second, .val (.int n), .val (.int (1 : Int32))] [.null, (.ref a)])) (s₁.setTop (entryFrame m #[(.ref a), (.double d), (.int n), (.int (1 : Int32))] 5)) := fun t hh => k11 t (by
    refine XS.aloadN X213.here hx rfl (hb hby own_h102) rfl rfl ?_
    show Steps p.tables e below (T211.setTop (mkF m 61 #[.val (.ref a), .val (.double d), .second, .val (.int n), .val (.int (1 : Int32))] [(.ref a)])) _
    refine XS.aconstNull X213.here hx rfl (hb hby own_h103) ?_
    show Steps p.tables e below (T211.setTop (mkF m 62 #[.val (.ref a), .val (.double d), .second, .val (.int n), .val (.int (1 : Int32))] [.null, (.ref a)])) _
    exact hh)
  obtain ⟨T226, h227, X228, e229, W230, st231⟩ := putF X213 hx hZ157 hown158 (host := "") (Or.inl (wT hw 43 rfl)) Via.refl e214 F223 F219 (Or.inr ⟨(wT hw 44 rfl), rfl, hnm⟩) (wT hw 2 rfl) (ty := .object "com/example/ample_gap/amplegap/simulation/OnRamp") (by decide) rfl rfl (g := (mkF m 62 #[.val (.ref a), .val (.double d), .second, .val (.int n), .val (.int (1 : Int32))] [.null, (.ref a)])) rfl rfl (hb hby own_h104)
  have N232 := Fr.snoc X228 N217 g1
  have hk233 := Nat.le_trans hk218 (show h212.size ≤ h227.size from Nat.le_of_eq W230.size.symm)
  have F234 := Exa.wr W230 F219
  have F235 := Fld.other W230 F220 (Or.inr (slot_ne (Or.inr (wT hw 38 rfl)) (Or.inr (wT hw 44 rfl)) (by decide) (t := .double) (t' := (.object "com/example/ample_gap/amplegap/simulation/OnRamp")) (by decide) (by decide)))
  have F236 := Fld.other W230 F221 (Or.inr (slot_ne (Or.inr (wT hw 40 rfl)) (Or.inr (wT hw 44 rfl)) (by decide) (t := .int) (t' := (.object "com/example/ample_gap/amplegap/simulation/OnRamp")) (by decide) (by decide)))
  have F237 := Fld.other W230 F222 (Or.inr (slot_ne (Or.inr (wT hw 42 rfl)) (Or.inr (wT hw 44 rfl)) (by decide) (t := .boolean) (t' := (.object "com/example/ample_gap/amplegap/simulation/OnRamp")) (by decide) (by decide)))
  have F238 : Fld Z h227 a "com/example/ample_gap/amplegap/simulation/Road" "onRamp" "Lcom/example/ample_gap/amplegap/simulation/OnRamp;" .null := Fld.same W230 F223
  have Z239 : n0 ≤ h227.size := W230.size ▸ Z224
  have P240 : Keep h0 h227 [a] := P225.wr W230 (Or.inl (List.mem_of_getElem? (i := 0) rfl))
  have k13 : own_K p e below (T226.setTop (mkF m 65 #[.val (.ref a), .val (.double d), .second, .val (.int n), .val (.int (1 : Int32))] [])) (s₁.setTop (entryFrame m #[(.ref a), (.double d), (.int n), (.int (1 : Int32))] 5)) := fun t hh => k12 t (st231 t hh)
  obtain ⟨fs, hr, hrun, hended, hEnd⟩ := X228.leaveW hS155 (by rw [e229]; exact hk233) (v := none) (fun _ => rfl)
  refine ⟨_, _, k13 _ (X228.returnOut hx Bd.returns (hb hby own_h105) hr), hrun, hended, _, _, rfl, ?_, hEnd.1, hEnd.2.1, hEnd.2.2.1, hEnd.2.2.2.mono (by decide) (by decide)⟩
  show QD_ Z a d n (1 : Int32) h0 n0 _ T226.heap _
  rw [e229]
  exact ⟨rfl, N232, P240, F234, F235, F236, F237, F238⟩
theorem own_h107 : decode prog_49_method_1_code 0 = .ok (.aload_n 0, 1) := by decide +kernel
theorem own_h108 : decode prog_49_method_1_code 1 = .ok (.dload_n 1, 1) := by decide +kernel
theorem own_h109 : decode prog_49_method_1_code 2 = .ok (.iconst 1, 1) := by decide +kernel
theorem own_h110 : decode prog_49_method_1_code 3 = .ok (.iconst 0, 1) := by decide +kernel
theorem own_h111 : decode prog_49_method_1_code 4 = .ok (.invokespecial 1, 3) := by decide +kernel
theorem own_h112 : decode prog_49_method_1_code 7 = .ok (.return_, 1) := by decide +kernel
set_option maxRecDepth 65536 in
set_option maxHeartbeats 40000000 in
theorem rmC1 (l : Launch) (Z : State) (a0 : Array Value) (hw : ∀ d ∈ tables_1, d.before a0 Z = true) (ws : List Jvm.Cond) (a : Addr) (d : UInt64) (h0 : Heap) (n0 : Nat) (Z0 : n0 ≤ h0.size) (E1 : Exa Z h0 a "com/example/ample_gap/amplegap/simulation/Road") (g1 : n0 ≤ a) (F1 : Fld Z h0 a "com/example/ample_gap/amplegap/simulation/Road" "length" "D" (.double (0 : UInt64))) (F2 : Fld Z h0 a "com/example/ample_gap/amplegap/simulation/Road" "lanes" "I" (.int (0 : Int32))) (F3 : Fld Z h0 a "com/example/ample_gap/amplegap/simulation/Road" "ring" "Z" (.int (0 : Int32))) (F4 : Fld Z h0 a "com/example/ample_gap/amplegap/simulation/Road" "onRamp" "Lcom/example/ample_gap/amplegap/simulation/OnRamp;" .null) (n1 : Jvm.Free.Fl.NoNaN64 d) (n2 : (¬ 0 < cmpValue (FP.dcmp (d &&& (0x7fffffffffffffff : UInt64)) (9218868437227405311 : UInt64)) .g)) (n3 : cmpValue (FP.dcmp d FP.dconst0) .g = 1) :
    MetFree l (⟨"com/example/ample_gap/amplegap/simulation/Road", "<init>", "(D)V"⟩ : MethodName) (head1 (Jvm.Cond.code (⟨"com/example/ample_gap/amplegap/simulation/Road", "<init>", "(D)V"⟩ : MethodName) prog_49_method_1_code 3 none :: ws) ({ frames := 5, cells := 2, slots := 48, locals := 71 } : Room)) (fun ar_ U => ar_ = #[(.ref a), (.double d)] ∧ Z.Warmed39 U.vm ∧ U.heap = h0) (fun _ _ _ _ _ => True) (fun _ U o U' => ∃ v L, o = .returned v ∧ QD_ Z a d (1 : Int32) (0 : Int32) h0 n0 v U'.heap L ∧ ReturnedEndW U o U' L ({ frames := 5, cells := 2, slots := 48, locals := 71 } : Room).cells ({ frames := 5, cells := 2, slots := 48, locals := 71 } : Room).slots) := by
  refine MetFree.of_bodySF (plainFor_of_name own_h106) hisR ?_
  intro p e s m args below meth c s₁ Bd hml0 hP hK
  obtain ⟨rfl, hZ, hh⟩ := hP
  have hx := Bd.exec
  have hby := Bd.bytes
  have hml : c.maxLocals = 3 := hml0
  have hown : s.vm.findClass "com/example/ample_gap/amplegap/simulation/Road" = some m.cls := findClass_of_methodNamed Bd.named
  have hnm := (name_of_methodNamed Bd.named Bd.method).1
  have X0 : Stand p l e ({ frames := 5, cells := 2, slots := 48, locals := 71 } : Room) (s.setVm s.vm) m #[(.ref a), (.double d)] below meth c s₁ [] 0 0 := Stand.of_body Bd
  have hS0 : s.Since s.vm 0 := (State.WarmedH.refl s).since 0
  have hk0 : 0 ≤ h0.size := Nat.zero_le _
  have hZ : Z.Warmed39 (s.setVm s.vm).vm := hZ
  have hown : (s.setVm s.vm).vm.findClass "com/example/ample_gap/amplegap/simulation/Road" = some m.cls := hown
  have e0 : s₁.heap = h0 := by rw [← hh, Bd.state]; rfl
  have N0 := Fr.nil n0
  have k0 : own_K p e below (s₁.setTop (mkF m 0 #[.val (.ref a), .val (.double d), .second] [])) (s₁.setTop (entryFrame m #[(.ref a), (.double d)] 3)) := fun t k => castTop (by clear k; first | (simp [entryFrame, mkF, argsToLocals, Value.category, maxLocals]; done) | rfl) k
  have K0 : Keep h0 h0 [a] := Keep.refl _ _
  have k1 : own_K p e below (s₁.setTop (mkF m 4 #[.val (.ref a), .val (.double d), .second] [(.int (0 : Int32)), (.int (1 : Int32)), (.double d), (.ref a)])) (s₁.setTop (entryFrame m #[(.ref a), (.double d)] 3)) := fun t hh => k0 t (by
    refine XS.aloadN X0.here hx rfl (hb hby own_h107) rfl rfl ?_
    show Steps p.tables e below (s₁.setTop (mkF m 1 #[.val (.ref a), .val (.double d), .second] [(.ref a)])) _
    refine XS.dloadN X0.here hx rfl (hb hby own_h108) rfl ?_
    show Steps p.tables e below (s₁.setTop (mkF m 2 #[.val (.ref a), .val (.double d), .second] [(.double d), (.ref a)])) _
    refine XS.iconst X0.here hx rfl (hb hby own_h109) ?_
    show Steps p.tables e below (s₁.setTop (mkF m 3 #[.val (.ref a), .val (.double d), .second] [(.int (1 : Int32)), (.double d), (.ref a)])) _
    refine XS.iconst X0.here hx rfl (hb hby own_h110) ?_
    show Steps p.tables e below (s₁.setTop (mkF m 4 #[.val (.ref a), .val (.double d), .second] [(.int (0 : Int32)), (.int (1 : Int32)), (.double d), (.ref a)])) _
    exact hh)
  obtain ⟨_, _, ⟨T241, L242, k_243, n_244⟩, -, X245, hSc252, hgr253, ⟨Lc246, hQ247, l_248, y_249, z_250⟩, st251⟩ := X0.specialBackS hx (y := (⟨"com/example/ample_gap/amplegap/simulation/Road", "<init>", "(DIZ)V"⟩ : MethodName)) rfl hown (mvT hZ (wT hw 7 rfl)) (mvT hZ (wT hw 8 rfl)) (mvT hZ (wT hw 9 rfl)) (by decide) (backOfS (W := 0) (rmD0 l Z a0 hw [] a d (1 : Int32) h0 n0 Z0 E1 g1 F1 F2 F3 F4 n1 n2 n3 (by decide) (by decide)) hZ (wT hw 9 rfl) (wT hw 3 rfl) (by decide) (by decide)) (g := (mkF m 4 #[.val (.ref a), .val (.double d), .second] [(.int (0 : Int32)), (.int (1 : Int32)), (.double d), (.ref a)])) rfl (by rw [hml]; rfl) (Steps.refl _) (a := a) (argsL := [(.double d), (.int (1 : Int32)), (.int (0 : Int32))]) (rest := []) (lenOf own_h12 rfl) rfl (by show 2 * 0 + _ ≤ _; exact Nat.le_of_eq rfl) (hb hby own_h111) (fun _ _ => ⟨rfl, e0, (by decide : 0 + 2 ≤ _), (by decide : 0 + 48 ≤ _)⟩)
  dsimp only [Pt.U, Pt.locs, Pt.cells, Pt.slots] at X245 hSc252 hgr253 l_248 y_249 z_250 st251 hQ247
  subst l_248 y_249 z_250
  obtain ⟨X255, hS256, hZ257, hown258⟩ := rebS hS0 (by rw [e0]; exact hk0) X245 hSc252 hgr253 hZ hown
  obtain ⟨rfl, N259, K260, E261, F262, F263, F264, F265⟩ := hQ247
  have N266 := Fr.app N0 N259
  have F267 := E1.keep K260
  have Z268 : n0 ≤ T241.heap.size := Nat.le_trans Z0 K260.1
  have hk269 := Nat.le_trans hk0 (show h0.size ≤ T241.heap.size from K260.1)
  have P270 : Keep h0 T241.heap [a] := K0.trans K260 (allS (P := fun x => x ∈ [a] ∨ h0.size ≤ x) (Or.inl (List.mem_of_getElem? (i := 0) rfl)) all0)
  have e271 : T241.heap = T241.heap := rfl
  have k2 : own_K p e below (T241.setTop (mkF m 7 #[.val (.ref a), .val (.double d), .second] [])) (s₁.setTop (entryFrame m #[(.ref a), (.double d)] 3)) := fun t hh => k1 t (st251.trans hh)
  obtain ⟨fs, hr, hrun, hended, hEnd⟩ := X255.leaveW hS256 (by rw [e271]; exact (Nat.le_refl T241.heap.size)) (v := none) (fun _ => rfl)
  refine ⟨_, _, k2 _ (X255.returnOut hx Bd.returns (hb hby own_h112) hr), hrun, hended, _, _, rfl, ?_, hEnd.1, hEnd.2.1, hEnd.2.2.1, hEnd.2.2.2.mono (by decide) (by decide)⟩
  show QD_ Z a d (1 : Int32) (0 : Int32) h0 n0 _ T241.heap _
  rw [e271]
  exact ⟨rfl, N266, P270, E261, F262, F263, F264, F265⟩
theorem own_h113 : decode prog_49_method_2_code 0 = .ok (.aload_n 0, 1) := by decide +kernel
theorem own_h114 : decode prog_49_method_2_code 1 = .ok (.dload_n 1, 1) := by decide +kernel
theorem own_h115 : decode prog_49_method_2_code 2 = .ok (.iload_n 3, 1) := by decide +kernel
theorem own_h116 : decode prog_49_method_2_code 3 = .ok (.iconst 0, 1) := by decide +kernel
theorem own_h117 : decode prog_49_method_2_code 4 = .ok (.invokespecial 1, 3) := by decide +kernel
theorem own_h118 : decode prog_49_method_2_code 7 = .ok (.return_, 1) := by decide +kernel
set_option maxRecDepth 65536 in
set_option maxHeartbeats 40000000 in
theorem rmC2 (l : Launch) (Z : State) (a0 : Array Value) (hw : ∀ d ∈ tables_1, d.before a0 Z = true) (ws : List Jvm.Cond) (a : Addr) (d : UInt64) (n : Int32) (h0 : Heap) (n0 : Nat) (Z0 : n0 ≤ h0.size) (E1 : Exa Z h0 a "com/example/ample_gap/amplegap/simulation/Road") (g1 : n0 ≤ a) (F1 : Fld Z h0 a "com/example/ample_gap/amplegap/simulation/Road" "length" "D" (.double (0 : UInt64))) (F2 : Fld Z h0 a "com/example/ample_gap/amplegap/simulation/Road" "lanes" "I" (.int (0 : Int32))) (F3 : Fld Z h0 a "com/example/ample_gap/amplegap/simulation/Road" "ring" "Z" (.int (0 : Int32))) (F4 : Fld Z h0 a "com/example/ample_gap/amplegap/simulation/Road" "onRamp" "Lcom/example/ample_gap/amplegap/simulation/OnRamp;" .null) (n1 : Jvm.Free.Fl.NoNaN64 d) (n2 : (¬ 0 < cmpValue (FP.dcmp (d &&& (0x7fffffffffffffff : UInt64)) (9218868437227405311 : UInt64)) .g)) (n3 : cmpValue (FP.dcmp d FP.dconst0) .g = 1) (q1 : ¬ n < (1 : Int32)) (q2 : ¬ (16 : Int32) < n) :
    MetFree l (⟨"com/example/ample_gap/amplegap/simulation/Road", "<init>", "(DI)V"⟩ : MethodName) (head1 (Jvm.Cond.code (⟨"com/example/ample_gap/amplegap/simulation/Road", "<init>", "(DI)V"⟩ : MethodName) prog_49_method_2_code 4 none :: ws) ({ frames := 5, cells := 2, slots := 48, locals := 71 } : Room)) (fun ar_ U => ar_ = #[(.ref a), (.double d), (.int n)] ∧ Z.Warmed39 U.vm ∧ U.heap = h0) (fun _ _ _ _ _ => True) (fun _ U o U' => ∃ v L, o = .returned v ∧ QD_ Z a d n (0 : Int32) h0 n0 v U'.heap L ∧ ReturnedEndW U o U' L ({ frames := 5, cells := 2, slots := 48, locals := 71 } : Room).cells ({ frames := 5, cells := 2, slots := 48, locals := 71 } : Room).slots) := by
  refine MetFree.of_bodySF (plainFor_of_name own_h106) hisR ?_
  intro p e s m args below meth c s₁ Bd hml0 hP hK
  obtain ⟨rfl, hZ, hh⟩ := hP
  have hx := Bd.exec
  have hby := Bd.bytes
  have hml : c.maxLocals = 4 := hml0
  have hown : s.vm.findClass "com/example/ample_gap/amplegap/simulation/Road" = some m.cls := findClass_of_methodNamed Bd.named
  have hnm := (name_of_methodNamed Bd.named Bd.method).1
  have X0 : Stand p l e ({ frames := 5, cells := 2, slots := 48, locals := 71 } : Room) (s.setVm s.vm) m #[(.ref a), (.double d), (.int n)] below meth c s₁ [] 0 0 := Stand.of_body Bd
  have hS0 : s.Since s.vm 0 := (State.WarmedH.refl s).since 0
  have hk0 : 0 ≤ h0.size := Nat.zero_le _
  have hZ : Z.Warmed39 (s.setVm s.vm).vm := hZ
  have hown : (s.setVm s.vm).vm.findClass "com/example/ample_gap/amplegap/simulation/Road" = some m.cls := hown
  have e0 : s₁.heap = h0 := by rw [← hh, Bd.state]; rfl
  have N0 := Fr.nil n0
  have k0 : own_K p e below (s₁.setTop (mkF m 0 #[.val (.ref a), .val (.double d), .second, .val (.int n)] [])) (s₁.setTop (entryFrame m #[(.ref a), (.double d), (.int n)] 4)) := fun t k => castTop (by clear k; first | (simp [entryFrame, mkF, argsToLocals, Value.category, maxLocals]; done) | rfl) k
  have K0 : Keep h0 h0 [a] := Keep.refl _ _
  have k1 : own_K p e below (s₁.setTop (mkF m 4 #[.val (.ref a), .val (.double d), .second, .val (.int n)] [(.int (0 : Int32)), (.int n), (.double d), (.ref a)])) (s₁.setTop (entryFrame m #[(.ref a), (.double d), (.int n)] 4)) := fun t hh => k0 t (by
    refine XS.aloadN X0.here hx rfl (hb hby own_h113) rfl rfl ?_
    show Steps p.tables e below (s₁.setTop (mkF m 1 #[.val (.ref a), .val (.double d), .second, .val (.int n)] [(.ref a)])) _
    refine XS.dloadN X0.here hx rfl (hb hby own_h114) rfl ?_
    show Steps p.tables e below (s₁.setTop (mkF m 2 #[.val (.ref a), .val (.double d), .second, .val (.int n)] [(.double d), (.ref a)])) _
    refine XS.iloadN X0.here hx rfl (hb hby own_h115) rfl ?_
    show Steps p.tables e below (s₁.setTop (mkF m 3 #[.val (.ref a), .val (.double d), .second, .val (.int n)] [(.int n), (.double d), (.ref a)])) _
    refine XS.iconst X0.here hx rfl (hb hby own_h116) ?_
    show Steps p.tables e below (s₁.setTop (mkF m 4 #[.val (.ref a), .val (.double d), .second, .val (.int n)] [(.int (0 : Int32)), (.int n), (.double d), (.ref a)])) _
    exact hh)
  obtain ⟨_, _, ⟨T272, L273, k_274, n_275⟩, -, X276, hSc283, hgr284, ⟨Lc277, hQ278, l_279, y_280, z_281⟩, st282⟩ := X0.specialBackS hx (y := (⟨"com/example/ample_gap/amplegap/simulation/Road", "<init>", "(DIZ)V"⟩ : MethodName)) rfl hown (mvT hZ (wT hw 7 rfl)) (mvT hZ (wT hw 8 rfl)) (mvT hZ (wT hw 9 rfl)) (by decide) (backOfS (W := 0) (rmD0 l Z a0 hw [] a d n h0 n0 Z0 E1 g1 F1 F2 F3 F4 n1 n2 n3 q1 q2) hZ (wT hw 9 rfl) (wT hw 3 rfl) (by decide) (by decide)) (g := (mkF m 4 #[.val (.ref a), .val (.double d), .second, .val (.int n)] [(.int (0 : Int32)), (.int n), (.double d), (.ref a)])) rfl (by rw [hml]; rfl) (Steps.refl _) (a := a) (argsL := [(.double d), (.int n), (.int (0 : Int32))]) (rest := []) (lenOf own_h12 rfl) rfl (by show 2 * 0 + _ ≤ _; exact Nat.le_of_eq rfl) (hb hby own_h117) (fun _ _ => ⟨rfl, e0, (by decide : 0 + 2 ≤ _), (by decide : 0 + 48 ≤ _)⟩)
  dsimp only [Pt.U, Pt.locs, Pt.cells, Pt.slots] at X276 hSc283 hgr284 l_279 y_280 z_281 st282 hQ278
  subst l_279 y_280 z_281
  obtain ⟨X286, hS287, hZ288, hown289⟩ := rebS hS0 (by rw [e0]; exact hk0) X276 hSc283 hgr284 hZ hown
  obtain ⟨rfl, N290, K291, E292, F293, F294, F295, F296⟩ := hQ278
  have N297 := Fr.app N0 N290
  have F298 := E1.keep K291
  have Z299 : n0 ≤ T272.heap.size := Nat.le_trans Z0 K291.1
  have hk300 := Nat.le_trans hk0 (show h0.size ≤ T272.heap.size from K291.1)
  have P301 : Keep h0 T272.heap [a] := K0.trans K291 (allS (P := fun x => x ∈ [a] ∨ h0.size ≤ x) (Or.inl (List.mem_of_getElem? (i := 0) rfl)) all0)
  have e302 : T272.heap = T272.heap := rfl
  have k2 : own_K p e below (T272.setTop (mkF m 7 #[.val (.ref a), .val (.double d), .second, .val (.int n)] [])) (s₁.setTop (entryFrame m #[(.ref a), (.double d), (.int n)] 4)) := fun t hh => k1 t (st282.trans hh)
  obtain ⟨fs, hr, hrun, hended, hEnd⟩ := X286.leaveW hS287 (by rw [e302]; exact (Nat.le_refl T272.heap.size)) (v := none) (fun _ => rfl)
  refine ⟨_, _, k2 _ (X286.returnOut hx Bd.returns (hb hby own_h118) hr), hrun, hended, _, _, rfl, ?_, hEnd.1, hEnd.2.1, hEnd.2.2.1, hEnd.2.2.2.mono (by decide) (by decide)⟩
  show QD_ Z a d n (0 : Int32) h0 n0 _ T272.heap _
  rw [e302]
  exact ⟨rfl, N297, P301, E292, F293, F294, F295, F296⟩
def QG (Z : State) (n : Int32) (h0 : Heap) (n0 : Nat) (v : Option Value) (h : Heap) (L : List Loc) : Prop := ∃ b : Addr, v = some (.ref b) ∧ Fr n0 L ∧ Keep h0 h [] ∧ n0 ≤ b ∧ Exa Z h b "com/example/ample_gap/amplegap/simulation/Road" ∧ Fld Z h b "com/example/ample_gap/amplegap/simulation/Road" "lanes" "I" (.int n) ∧ Fld Z h b "com/example/ample_gap/amplegap/simulation/Road" "onRamp" "Lcom/example/ample_gap/amplegap/simulation/OnRamp;" .null
theorem own_h119 : decode prog_49_method_6_code 0 = .ok (.new 2, 3) := by decide +kernel
theorem own_h120 : decode prog_49_method_6_code 3 = .ok (.dup, 1) := by decide +kernel
theorem own_h121 : decode prog_49_method_6_code 4 = .ok (.dload_n 0, 1) := by decide +kernel
theorem own_h122 : decode prog_49_method_6_code 5 = .ok (.iload_n 2, 1) := by decide +kernel
theorem own_h123 : decode prog_49_method_6_code 6 = .ok (.iconst 1, 1) := by decide +kernel
theorem own_h124 : decode prog_49_method_6_code 7 = .ok (.invokespecial 1, 3) := by decide +kernel
theorem own_h125 : decode prog_49_method_6_code 10 = .ok (.areturn, 1) := by decide +kernel
set_option maxRecDepth 65536 in
set_option maxHeartbeats 40000000 in
theorem rmG (l : Launch) (Z : State) (a0 : Array Value) (hw : ∀ d ∈ tables_1, d.before a0 Z = true) (ws : List Jvm.Cond) (d : UInt64) (n : Int32) (h0 : Heap) (n0 : Nat) (Z0 : n0 ≤ h0.size) (n1 : Jvm.Free.Fl.NoNaN64 d) (n2 : (¬ 0 < cmpValue (FP.dcmp (d &&& (0x7fffffffffffffff : UInt64)) (9218868437227405311 : UInt64)) .g)) (n3 : cmpValue (FP.dcmp d FP.dconst0) .g = 1) (q1 : ¬ n < (1 : Int32)) (q2 : ¬ (16 : Int32) < n) :
    MetFree l (⟨"com/example/ample_gap/amplegap/simulation/Road", "ring", "(DI)Lcom/example/ample_gap/amplegap/simulation/Road;"⟩ : MethodName) (head1 (Jvm.Cond.code (⟨"com/example/ample_gap/amplegap/simulation/Road", "ring", "(DI)Lcom/example/ample_gap/amplegap/simulation/Road;"⟩ : MethodName) prog_49_method_6_code 3 (some (.object "com/example/ample_gap/amplegap/simulation/Road")) :: ws) ({ frames := 5, cells := 3, slots := 80, locals := 72 } : Room)) (fun ar_ U => ar_ = #[(.double d), (.int n)] ∧ Z.Warmed39 U.vm ∧ U.heap = h0) (fun _ _ _ _ _ => True) (fun _ U o U' => ∃ v L, o = .returned v ∧ QG Z n h0 n0 v U'.heap L ∧ ReturnedEndW U o U' L ({ frames := 5, cells := 3, slots := 80, locals := 72 } : Room).cells ({ frames := 5, cells := 3, slots := 80, locals := 72 } : Room).slots) := by
  refine MetFree.of_bodySF (plainFor_of_name own_h106) hisR ?_
  intro p e s m args below meth c s₁ Bd hml0 hP hK
  obtain ⟨rfl, hZ, hh⟩ := hP
  have hx := Bd.exec
  have hby := Bd.bytes
  have hml : c.maxLocals = 3 := hml0
  have hown : s.vm.findClass "com/example/ample_gap/amplegap/simulation/Road" = some m.cls := findClass_of_methodNamed Bd.named
  have hnm := (name_of_methodNamed Bd.named Bd.method).1
  have X0 : Stand p l e ({ frames := 5, cells := 3, slots := 80, locals := 72 } : Room) (s.setVm s.vm) m #[(.double d), (.int n)] below meth c s₁ [] 0 0 := Stand.of_body Bd
  have hS0 : s.Since s.vm 0 := (State.WarmedH.refl s).since 0
  have hk0 : 0 ≤ h0.size := Nat.zero_le _
  have hZ : Z.Warmed39 (s.setVm s.vm).vm := hZ
  have hown : (s.setVm s.vm).vm.findClass "com/example/ample_gap/amplegap/simulation/Road" = some m.cls := hown
  have e0 : s₁.heap = h0 := by rw [← hh, Bd.state]; rfl
  have N0 := Fr.nil n0
  have k0 : own_K p e below (s₁.setTop (mkF m 0 #[.val (.double d), .second, .val (.int n)] [])) (s₁.setTop (entryFrame m #[(.double d), (.int n)] 3)) := fun t k => castTop (by clear k; first | (simp [entryFrame, mkF, argsToLocals, Value.category, maxLocals]; done) | rfl) k
  have K0 : Keep h0 h0 [] := Keep.refl _ _
  obtain ⟨T303, h304, X305, e306, E307, A308, D309, U311, st310⟩ := newO X0 hx hZ hown (wT hw 58 rfl) (wT hw 2 rfl) (wT hw 3 rfl) e0 (g := (mkF m 0 #[.val (.double d), .second, .val (.int n)] [])) rfl (hb hby own_h119) (by decide) (by decide)
  obtain ⟨a312, g313⟩ : ∃ z, z = h0.size := ⟨_, rfl⟩
  rw [← g313] at A308 D309 U311 st310
  have H0314 : h0.size ≤ a312 := Nat.le_trans K0.1 (Nat.le_of_eq g313.symm)
  have G315 : n0 ≤ a312 := Nat.le_trans Z0 (Nat.le_of_eq g313.symm)
  have hk316 := Nat.le_trans hk0 (show h0.size ≤ h304.size from E307.1)
  have Z317 : n0 ≤ h304.size := Nat.le_trans Z0 E307.1
  have P318 : Keep h0 h304 [] := K0.ext E307
  have F319 : Fld Z h304 a312 "com/example/ample_gap/amplegap/simulation/Road" "length" "D" (.double (0 : UInt64)) := D309 (Or.inr (wT hw 38 rfl)) (ty := .double) (by decide)
  have F320 : Fld Z h304 a312 "com/example/ample_gap/amplegap/simulation/Road" "lanes" "I" (.int (0 : Int32)) := D309 (Or.inr (wT hw 40 rfl)) (ty := .int) (by decide)
  have F321 : Fld Z h304 a312 "com/example/ample_gap/amplegap/simulation/Road" "ring" "Z" (.int (0 : Int32)) := D309 (Or.inr (wT hw 42 rfl)) (ty := .boolean) (by decide)
  have F322 : Fld Z h304 a312 "com/example/ample_gap/amplegap/simulation/Road" "onRamp" "Lcom/example/ample_gap/amplegap/simulation/OnRamp;" .null := D309 (Or.inr (wT hw 44 rfl)) (ty := .object "com/example/ample_gap/amplegap/simulation/OnRamp") (by decide)
  have k1 : own_K p e below (T303.setTop (mkF m 3 #[.val (.double d), .second, .val (.int n)] [(.ref a312)])) (s₁.setTop (entryFrame m #[(.double d), (.int n)] 3)) := fun t hh => k0 t (st310 t hh)
  have k2 : own_K p e below (T303.setTop (mkF m 7 #[.val (.double d), .second, .val (.int n)] [(.int (1 : Int32)), (.int n), (.double d), (.ref a312), (.ref a312)])) (s₁.setTop (entryFrame m #[(.double d), (.int n)] 3)) := fun t hh => k1 t (by
    refine XS.dup X305.here hx rfl (hb hby own_h120) rfl rfl ?_
    show Steps p.tables e below (T303.setTop (mkF m 4 #[.val (.double d), .second, .val (.int n)] [(.ref a312), (.ref a312)])) _
    refine XS.dloadN X305.here hx rfl (hb hby own_h121) rfl ?_
    show Steps p.tables e below (T303.setTop (mkF m 5 #[.val (.double d), .second, .val (.int n)] [(.double d), (.ref a312), (.ref a312)])) _
    refine XS.iloadN X305.here hx rfl (hb hby own_h122) rfl ?_
    show Steps p.tables e below (T303.setTop (mkF m 6 #[.val (.double d), .second, .val (.int n)] [(.int n), (.double d), (.ref a312), (.ref a312)])) _
    refine XS.iconst X305.here hx rfl (hb hby own_h123) ?_
    show Steps p.tables e below (T303.setTop (mkF m 7 #[.val (.double d), .second, .val (.int n)] [(.int (1 : Int32)), (.int n), (.double d), (.ref a312), (.ref a312)])) _
    exact hh)
  obtain ⟨_, _, ⟨T323, L324, k_325, n_326⟩, -, X327, hSc334, hgr335, ⟨Lc328, hQ329, l_330, y_331, z_332⟩, st333⟩ := X305.specialBackS hx (y := (⟨"com/example/ample_gap/amplegap/simulation/Road", "<init>", "(DIZ)V"⟩ : MethodName)) rfl hown (mvT hZ (wT hw 7 rfl)) (mvT hZ (wT hw 8 rfl)) (mvT hZ (wT hw 9 rfl)) (by decide) (backOfS (W := 1) (rmD1 l Z a0 hw [] a312 d n h304 n0 Z317 A308 G315 F319 F320 F321 F322 n1 n2 n3 q1 q2) hZ (wT hw 9 rfl) (wT hw 3 rfl) (by decide) (by decide)) (g := (mkF m 7 #[.val (.double d), .second, .val (.int n)] [(.int (1 : Int32)), (.int n), (.double d), (.ref a312), (.ref a312)])) rfl (by rw [hml]; rfl) (Steps.refl _) (a := a312) (argsL := [(.double d), (.int n), (.int (1 : Int32))]) (rest := [(.ref a312)]) (lenOf own_h12 rfl) rfl (by show 2 * 0 + _ ≤ _; exact Nat.le_of_eq rfl) (hb hby own_h124) (fun _ _ => ⟨rfl, e306, (by decide : 1 + 2 ≤ _), (by decide : 4 + 76 ≤ _)⟩)
  dsimp only [Pt.U, Pt.locs, Pt.cells, Pt.slots] at X327 hSc334 hgr335 l_330 y_331 z_332 st333 hQ329
  subst l_330 y_331 z_332
  obtain ⟨X337, hS338, hZ339, hown340⟩ := rebS hS0 (by rw [e306]; exact hk316) X327 hSc334 hgr335 hZ hown
  obtain ⟨rfl, N341, K342, E343, F344, F345, F346, F347⟩ := hQ329
  have N348 := Fr.app N0 N341
  have F349 := A308.keep K342
  have Z350 : n0 ≤ T323.heap.size := Nat.le_trans Z317 K342.1
  have hk351 := Nat.le_trans hk316 (show h304.size ≤ T323.heap.size from K342.1)
  have P352 : Keep h0 T323.heap [] := P318.trans K342 (allS (P := fun x => x ∈ [] ∨ h0.size ≤ x) (Or.inr H0314) all0)
  have e353 : T323.heap = T323.heap := rfl
  have k3 : own_K p e below (T323.setTop (mkF m 10 #[.val (.double d), .second, .val (.int n)] [(.ref a312)])) (s₁.setTop (entryFrame m #[(.double d), (.int n)] 3)) := fun t hh => k2 t (st333.trans hh)
  obtain ⟨fs, hr, hrun, hended, hEnd⟩ := X337.leaveW hS338 (by rw [e353]; exact (Nat.le_refl T323.heap.size)) (v := some (.ref a312)) (fun h => by rw [Bd.returns] at h; cases h)
  refine ⟨_, _, k3 _ (retOut X337 hx (t := .object "com/example/ample_gap/amplegap/simulation/Road") Bd.returns rfl (Or.inr (Or.inr (Or.inr (Or.inr ⟨rfl, rfl, rfl⟩)))) (hb hby own_h125) hr), hrun, hended, _, _, rfl, ?_, hEnd.1, hEnd.2.1, hEnd.2.2.1, hEnd.2.2.2.mono (by decide) (by decide)⟩
  show QG Z n h0 n0 _ T323.heap _
  rw [e353]
  exact ⟨_, rfl, N348, P352, G315, E343, F345, F347⟩
def QO (Z : State) (a : Addr) (x y : UInt64) (h0 : Heap) (n0 : Nat) (v : Option Value) (h : Heap) (L : List Loc) : Prop := v = none ∧ Fr n0 L ∧ Keep h0 h [a] ∧ Exa Z h a "com/example/ample_gap/amplegap/simulation/OnRamp" ∧ Fld Z h a "com/example/ample_gap/amplegap/simulation/OnRamp" "end" "D" (.double y)
theorem own_h126 : decode prog_45_method_1_code 0 = .ok (.aload_n 0, 1) := by decide +kernel
theorem own_h127 : decode prog_45_method_1_code 1 = .ok (.invokespecial 1, 3) := by decide +kernel
theorem own_h128 : decode prog_45_method_1_code 4 = .ok (.ldc 7, 2) := by decide +kernel
theorem own_h129 : decode prog_45_method_1_code 6 = .ok (.dload_n 1, 1) := by decide +kernel
theorem own_h130 : decode prog_45_method_1_code 7 = .ok (.invokestatic 9, 3) := by decide +kernel
theorem own_h131 : decode prog_45_method_1_code 10 = .ok (.pop2, 1) := by decide +kernel
theorem own_h132 : decode prog_45_method_1_code 11 = .ok (.ldc 15, 2) := by decide +kernel
theorem own_h133 : decode prog_45_method_1_code 13 = .ok (.dload_n 3, 1) := by decide +kernel
theorem own_h134 : decode prog_45_method_1_code 14 = .ok (.invokestatic 17, 3) := by decide +kernel
theorem own_h135 : decode prog_45_method_1_code 17 = .ok (.pop2, 1) := by decide +kernel
theorem own_h136 : decode prog_45_method_1_code 18 = .ok (.dload_n 3, 1) := by decide +kernel
theorem own_h137 : decode prog_45_method_1_code 19 = .ok (.dload_n 1, 1) := by decide +kernel
theorem own_h138 : decode prog_45_method_1_code 20 = .ok (.dcmp .l, 1) := by decide +kernel
theorem own_h139 : decode prog_45_method_1_code 21 = .ok (.ifCond .gt 18, 3) := by decide +kernel
theorem own_h140 : decode prog_45_method_1_code 24 = .ok (.new 20, 3) := by decide +kernel
theorem own_h141 : decode prog_45_method_1_code 27 = .ok (.dup, 1) := by decide +kernel
theorem own_h142 : decode prog_45_method_1_code 28 = .ok (.dload_n 1, 1) := by decide +kernel
theorem own_h143 : decode prog_45_method_1_code 29 = .ok (.dload_n 3, 1) := by decide +kernel
theorem own_h144 : decode prog_45_method_1_code 30 = .ok (.invokedynamic 22, 5) := by decide +kernel
theorem own_h145 : decode prog_45_method_1_code 35 = .ok (.invokespecial 26, 3) := by decide +kernel
theorem own_h146 : decode prog_45_method_1_code 38 = .ok (.athrow, 1) := by decide +kernel
theorem own_h147 : decode prog_45_method_1_code 39 = .ok (.aload_n 0, 1) := by decide +kernel
theorem own_h148 : decode prog_45_method_1_code 40 = .ok (.dload_n 1, 1) := by decide +kernel
theorem own_h149 : decode prog_45_method_1_code 41 = .ok (.putfield 29, 3) := by decide +kernel
theorem own_h150 : decode prog_45_method_1_code 44 = .ok (.aload_n 0, 1) := by decide +kernel
theorem own_h151 : decode prog_45_method_1_code 45 = .ok (.dload_n 3, 1) := by decide +kernel
theorem own_h152 : decode prog_45_method_1_code 46 = .ok (.putfield 35, 3) := by decide +kernel
theorem own_h153 : decode prog_45_method_1_code 49 = .ok (.return_, 1) := by decide +kernel
theorem own_h154 : plainName "com/example/ample_gap/amplegap/simulation/OnRamp" = true := by first | (simp [plainName, overriddenIn]; done) | decide +kernel
set_option maxRecDepth 65536 in
set_option maxHeartbeats 40000000 in
theorem rmO (l : Launch) (Z : State) (a0 : Array Value) (hw : ∀ d ∈ tables_1, d.before a0 Z = true) (ws : List Jvm.Cond) (a : Addr) (x y : UInt64) (h0 : Heap) (n0 : Nat) (Z0 : n0 ≤ h0.size) (E1 : Exa Z h0 a "com/example/ample_gap/amplegap/simulation/OnRamp") (g1 : n0 ≤ a) (F1 : Fld Z h0 a "com/example/ample_gap/amplegap/simulation/OnRamp" "start" "D" (.double (0 : UInt64))) (F2 : Fld Z h0 a "com/example/ample_gap/amplegap/simulation/OnRamp" "end" "D" (.double (0 : UInt64))) (n1 : Jvm.Free.Fl.NoNaN64 x) (n2 : (¬ 0 < cmpValue (FP.dcmp (x &&& (0x7fffffffffffffff : UInt64)) (9218868437227405311 : UInt64)) .g)) (n3 : ¬ cmpValue (FP.dcmp x FP.dconst0) .g < 0) (n4 : Jvm.Free.Fl.NoNaN64 y) (n5 : (¬ 0 < cmpValue (FP.dcmp (y &&& (0x7fffffffffffffff : UInt64)) (9218868437227405311 : UInt64)) .g)) (n6 : cmpValue (FP.dcmp y x) .l = 1) :
    MetFree l (⟨"com/example/ample_gap/amplegap/simulation/OnRamp", "<init>", "(DD)V"⟩ : MethodName) (head1 (Jvm.Cond.code (⟨"com/example/ample_gap/amplegap/simulation/OnRamp", "<init>", "(DD)V"⟩ : MethodName) prog_45_method_1_code 5 none :: ws) ({ frames := 4, cells := 4, slots := 104, locals := 54 } : Room)) (fun ar_ U => ar_ = #[(.ref a), (.double x), (.double y)] ∧ Z.Warmed39 U.vm ∧ U.heap = h0) (fun _ _ _ _ _ => True) (fun _ U o U' => ∃ v L, o = .returned v ∧ QO Z a x y h0 n0 v U'.heap L ∧ ReturnedEndW U o U' L ({ frames := 4, cells := 4, slots := 104, locals := 54 } : Room).cells ({ frames := 4, cells := 4, slots := 104, locals := 54 } : Room).slots) := by
  refine MetFree.of_bodySF (plainFor_of_name own_h154) hisR ?_
  intro p e s m args below meth c s₁ Bd hml0 hP hK
  obtain ⟨rfl, hZ, hh⟩ := hP
  have hx := Bd.exec
  have hby := Bd.bytes
  have hml : c.maxLocals = 5 := hml0
  have hown : s.vm.findClass "com/example/ample_gap/amplegap/simulation/OnRamp" = some m.cls := findClass_of_methodNamed Bd.named
  have hnm := (name_of_methodNamed Bd.named Bd.method).1
  have X0 : Stand p l e ({ frames := 4, cells := 4, slots := 104, locals := 54 } : Room) (s.setVm s.vm) m #[(.ref a), (.double x), (.double y)] below meth c s₁ [] 0 0 := Stand.of_body Bd
  have hS0 : s.Since s.vm 0 := (State.WarmedH.refl s).since 0
  have hk0 : 0 ≤ h0.size := Nat.zero_le _
  have hZ : Z.Warmed39 (s.setVm s.vm).vm := hZ
  have hown : (s.setVm s.vm).vm.findClass "com/example/ample_gap/amplegap/simulation/OnRamp" = some m.cls := hown
  have e0 : s₁.heap = h0 := by rw [← hh, Bd.state]; rfl
  have N0 := Fr.nil n0
  have k0 : own_K p e below (s₁.setTop (mkF m 0 #[.val (.ref a), .val (.double x), .second, .val (.double y), .second] [])) (s₁.setTop (entryFrame m #[(.ref a), (.double x), (.double y)] 5)) := fun t k => castTop (by clear k; first | (simp [entryFrame, mkF, argsToLocals, Value.category, maxLocals]; done) | rfl) k
  have K0 : Keep h0 h0 [a] := Keep.refl _ _
  have k1 : own_K p e below (s₁.setTop (mkF m 1 #[.val (.ref a), .val (.double x), .second, .val (.double y), .second] [(.ref a)])) (s₁.setTop (entryFrame m #[(.ref a), (.double x), (.double y)] 5)) := fun t hh => k0 t (by
    refine XS.aloadN X0.here hx rfl (hb hby own_h126) rfl rfl ?_
    show Steps p.tables e below (s₁.setTop (mkF m 1 #[.val (.ref a), .val (.double x), .second, .val (.double y), .second] [(.ref a)])) _
    exact hh)
  obtain ⟨T354, X355, e356, st357⟩ := initO X0 hx hZ hown (wT hw 69 rfl) (wT hw 11 rfl) (wT hw 12 rfl) e0 (g := (mkF m 1 #[.val (.ref a), .val (.double x), .second, .val (.double y), .second] [(.ref a)])) rfl (by rw [hml]; rfl) rfl (hb hby own_h127) (by decide) (W := 0) (by show 2 * 0 + _ ≤ _; exact Nat.le_of_eq rfl) (by decide)
  have k2 : own_K p e below (T354.setTop (mkF m 4 #[.val (.ref a), .val (.double x), .second, .val (.double y), .second] [])) (s₁.setTop (entryFrame m #[(.ref a), (.double x), (.double y)] 5)) := fun t hh => k1 t (st357 t hh)
  obtain ⟨a358, T359, h360, k_361, X362, e363, E364, hS365, hk366, hZ367, hown368, st369⟩ := ldcS X355 hx hZ hown (wT hw 70 rfl) (own_strAtoms hw) e356 hS0 hk0 (g := (mkF m 4 #[.val (.ref a), .val (.double x), .second, .val (.double y), .second] [])) rfl (hb hby own_h128) (n := 52) (by decide) (by decide) (by decide) (by decide)
  have F370 := Exa.ext (h' := h360) E364 E1
  have F371 := Fld.ext (h' := h360) E364 F1
  have F372 := Fld.ext (h' := h360) E364 F2
  have Z373 : n0 ≤ h360.size := Nat.le_trans Z0 E364.1
  have P374 : Keep h0 h360 [a] := K0.ext E364
  have k3 : own_K p e below (T359.setTop (mkF m 6 #[.val (.ref a), .val (.double x), .second, .val (.double y), .second] [(.ref a358)])) (s₁.setTop (entryFrame m #[(.ref a), (.double x), (.double y)] 5)) := fun t hh => k2 t (st369 t hh)
  have k4 : own_K p e below (T359.setTop (mkF m 7 #[.val (.ref a), .val (.double x), .second, .val (.double y), .second] [(.double x), (.ref a358)])) (s₁.setTop (entryFrame m #[(.ref a), (.double x), (.double y)] 5)) := fun t hh => k3 t (by
    refine XS.dloadN X362.here hx rfl (hb hby own_h129) rfl ?_
    show Steps p.tables e below (T359.setTop (mkF m 7 #[.val (.ref a), .val (.double x), .second, .val (.double y), .second] [(.double x), (.ref a358)])) _
    exact hh)
  obtain ⟨_, _, ⟨T375, L376, k_377, n_378⟩, -, X379, ⟨Lc380, hQ381, l_382, y_383, z_384⟩, st385⟩ := Jvm.LawKit.callS X362 hx (y := (⟨"com/example/ample_gap/amplegap/model/Ranges", "requireNonNegative", "(Ljava/lang/String;D)D"⟩ : MethodName)) hown368 (mvT hZ367 (wT hw 71 rfl)) (mvT hZ367 (wT hw 72 rfl)) (mvT hZ367 (wT hw 23 rfl)) (mvT hZ367 (wT hw 73 rfl)) (by decide) (backOf (W := 0) (rmRn l Z a0 hw [] a358 x h360 n0 Z373 n1 n2 n3) hZ367 (wT hw 73 rfl) (wT hw 23 rfl) (by decide) (by decide)) (g := (mkF m 7 #[.val (.ref a), .val (.double x), .second, .val (.double y), .second] [(.double x), (.ref a358)])) rfl (by rw [hml]; rfl) (argsL := [(.ref a358), (.double x)]) (rest := []) (lenOf own_h14 rfl) rfl (by show 2 * 0 + _ ≤ _; exact Nat.le_of_eq rfl) (hb hby own_h130) (fun _ _ => ⟨rfl, e363, (by decide : 2 + 0 ≤ _), (by decide : 56 + 0 ≤ _)⟩)
  dsimp only [Pt.U, Pt.locs, Pt.cells, Pt.slots] at X379 l_382 y_383 z_384 st385 hQ381
  subst l_382 y_383 z_384
  obtain ⟨rfl, N386, e387⟩ := hQ381
  have N388 := Fr.app N0 N386
  have k5 : own_K p e below (T375.setTop (mkF m 10 #[.val (.ref a), .val (.double x), .second, .val (.double y), .second] [(.double x)])) (s₁.setTop (entryFrame m #[(.ref a), (.double x), (.double y)] 5)) := fun t hh => k4 t (st385 t hh)
  have k6 : own_K p e below (T375.setTop (mkF m 11 #[.val (.ref a), .val (.double x), .second, .val (.double y), .second] [])) (s₁.setTop (entryFrame m #[(.ref a), (.double x), (.double y)] 5)) := fun t hh => k5 t (by
    refine own_pop2 X379.here hx rfl (hb hby own_h131) rfl ?_
    show Steps p.tables e below (T375.setTop (mkF m 11 #[.val (.ref a), .val (.double x), .second, .val (.double y), .second] [])) _
    exact hh)
  obtain ⟨a389, T390, h391, k_392, X393, e394, E395, hS396, hk397, hZ398, hown399, st400⟩ := ldcS X379 hx hZ367 hown368 (wT hw 74 rfl) (own_strAtoms hw) e387 hS365 hk366 (g := (mkF m 11 #[.val (.ref a), .val (.double x), .second, .val (.double y), .second] [])) rfl (hb hby own_h132) (n := 44) (by decide) (by decide) (by decide) (by decide)
  have F401 := Exa.ext (h' := h391) E395 F370
  have F402 := Fld.ext (h' := h391) E395 F371
  have F403 := Fld.ext (h' := h391) E395 F372
  have Z404 : n0 ≤ h391.size := Nat.le_trans Z373 E395.1
  have P405 : Keep h0 h391 [a] := P374.ext E395
  have k7 : own_K p e below (T390.setTop (mkF m 13 #[.val (.ref a), .val (.double x), .second, .val (.double y), .second] [(.ref a389)])) (s₁.setTop (entryFrame m #[(.ref a), (.double x), (.double y)] 5)) := fun t hh => k6 t (st400 t hh)
  have k8 : own_K p e below (T390.setTop (mkF m 14 #[.val (.ref a), .val (.double x), .second, .val (.double y), .second] [(.double y), (.ref a389)])) (s₁.setTop (entryFrame m #[(.ref a), (.double x), (.double y)] 5)) := fun t hh => k7 t (by
    refine XS.dloadN X393.here hx rfl (hb hby own_h133) rfl ?_
    show Steps p.tables e below (T390.setTop (mkF m 14 #[.val (.ref a), .val (.double x), .second, .val (.double y), .second] [(.double y), (.ref a389)])) _
    exact hh)
  obtain ⟨_, _, ⟨T406, L407, k_408, n_409⟩, -, X410, ⟨Lc411, hQ412, l_413, y_414, z_415⟩, st416⟩ := Jvm.LawKit.callS X393 hx (y := (⟨"com/example/ample_gap/amplegap/model/Ranges", "requireFinite", "(Ljava/lang/String;D)D"⟩ : MethodName)) hown399 (mvT hZ398 (wT hw 75 rfl)) (mvT hZ398 (wT hw 26 rfl)) (mvT hZ398 (wT hw 23 rfl)) (mvT hZ398 (wT hw 27 rfl)) (by decide) (backOf (W := 0) (rmRf l Z a0 hw [] a389 y h391 n0 Z404 n4 n5) hZ398 (wT hw 27 rfl) (wT hw 23 rfl) (by decide) (by decide)) (g := (mkF m 14 #[.val (.ref a), .val (.double x), .second, .val (.double y), .second] [(.double y), (.ref a389)])) rfl (by rw [hml]; rfl) (argsL := [(.ref a389), (.double y)]) (rest := []) (lenOf own_h14 rfl) rfl (by show 2 * 0 + _ ≤ _; exact Nat.le_of_eq rfl) (hb hby own_h134) (fun _ _ => ⟨rfl, e394, (by decide : 4 + 0 ≤ _), (by decide : 104 + 0 ≤ _)⟩)
  dsimp only [Pt.U, Pt.locs, Pt.cells, Pt.slots] at X410 l_413 y_414 z_415 st416 hQ412
  subst l_413 y_414 z_415
  obtain ⟨rfl, N417, e418⟩ := hQ412
  have N419 := Fr.app N388 N417
  have k9 : own_K p e below (T406.setTop (mkF m 17 #[.val (.ref a), .val (.double x), .second, .val (.double y), .second] [(.double y)])) (s₁.setTop (entryFrame m #[(.ref a), (.double x), (.double y)] 5)) := fun t hh => k8 t (st416 t hh)
  have k10 : own_K p e below (T406.setTop (mkF m 41 #[.val (.ref a), .val (.double x), .second, .val (.double y), .second] [(.double x), (.ref a)])) (s₁.setTop (entryFrame m #[(.ref a), (.double x), (.double y)] 5)) := fun t hh => k9 t (by
    refine own_pop2 X410.here hx rfl (hb hby own_h135) rfl ?_
    show Steps p.tables e below (T406.setTop (mkF m 18 #[.val (.ref a), .val (.double x), .second, .val (.double y), .second] [])) _
    refine XS.dloadN X410.here hx rfl (hb hby own_h136) rfl ?_
    show Steps p.tables e below (T406.setTop (mkF m 19 #[.val (.ref a), .val (.double x), .second, .val (.double y), .second] [(.double y)])) _
    refine XS.dloadN X410.here hx rfl (hb hby own_h137) rfl ?_
    show Steps p.tables e below (T406.setTop (mkF m 20 #[.val (.ref a), .val (.double x), .second, .val (.double y), .second] [(.double x), (.double y)])) _
    refine XS.dcmpS X410.here hx rfl (hb hby own_h138) rfl n6 ?_
    show Steps p.tables e below (T406.setTop (mkF m 21 #[.val (.ref a), .val (.double x), .second, .val (.double y), .second] [(.int (1 : Int32))])) _
    refine XS.ifYes X410.here hx rfl (pc0 := 21) (pc' := 39) rfl (hb hby own_h139) rfl (by decide) (by decide) (by decide) ?_
    show Steps p.tables e below (T406.setTop (mkF m 39 #[.val (.ref a), .val (.double x), .second, .val (.double y), .second] [])) _
    refine XS.aloadN X410.here hx rfl (hb hby own_h147) rfl rfl ?_
    show Steps p.tables e below (T406.setTop (mkF m 40 #[.val (.ref a), .val (.double x), .second, .val (.double y), .second] [(.ref a)])) _
    refine XS.dloadN X410.here hx rfl (hb hby own_h148) rfl ?_
    show Steps p.tables e below (T406.setTop (mkF m 41 #[.val (.ref a), .val (.double x), .second, .val (.double y), .second] [(.double x), (.ref a)])) _
    exact hh)
  obtain ⟨T420, h421, X422, e423, W424, st425⟩ := putF X410 hx hZ398 hown399 (host := "") (Or.inl (wT hw 76 rfl)) Via.refl e418 F402 F401 (Or.inr ⟨(wT hw 77 rfl), rfl, hnm⟩) (wT hw 64 rfl) (ty := .double) (by decide) rfl rfl (g := (mkF m 41 #[.val (.ref a), .val (.double x), .second, .val (.double y), .second] [(.double x), (.ref a)])) rfl rfl (hb hby own_h149)
  have N426 := Fr.snoc X422 N419 g1
  have hk427 := Nat.le_trans hk397 (show h391.size ≤ h421.size from Nat.le_of_eq W424.size.symm)
  have F428 := Exa.wr W424 F401
  have F429 : Fld Z h421 a "com/example/ample_gap/amplegap/simulation/OnRamp" "start" "D" (.double x) := Fld.same W424 F402
  have F430 := Fld.other W424 F403 (Or.inr (slot_ne (Or.inr (wT hw 79 rfl)) (Or.inr (wT hw 77 rfl)) (by decide) (t := .double) (t' := .double) (by decide) (by decide)))
  have Z431 : n0 ≤ h421.size := W424.size ▸ Z404
  have P432 : Keep h0 h421 [a] := P405.wr W424 (Or.inl (List.mem_of_getElem? (i := 0) rfl))
  have k11 : own_K p e below (T420.setTop (mkF m 44 #[.val (.ref a), .val (.double x), .second, .val (.double y), .second] [])) (s₁.setTop (entryFrame m #[(.ref a), (.double x), (.double y)] 5)) := fun t hh => k10 t (st425 t hh)
  have k12 : own_K p e below (T420.setTop (mkF m 46 #[.val (.ref a), .val (.double x), .second, .val (.double y), .second] [(.double y), (.ref a)])) (s₁.setTop (entryFrame m #[(.ref a), (.double x), (.double y)] 5)) := fun t hh => k11 t (by
    refine XS.aloadN X422.here hx rfl (hb hby own_h150) rfl rfl ?_
    show Steps p.tables e below (T420.setTop (mkF m 45 #[.val (.ref a), .val (.double x), .second, .val (.double y), .second] [(.ref a)])) _
    refine XS.dloadN X422.here hx rfl (hb hby own_h151) rfl ?_
    show Steps p.tables e below (T420.setTop (mkF m 46 #[.val (.ref a), .val (.double x), .second, .val (.double y), .second] [(.double y), (.ref a)])) _
    exact hh)
  obtain ⟨T433, h434, X435, e436, W437, st438⟩ := putF X422 hx hZ398 hown399 (host := "") (Or.inl (wT hw 78 rfl)) Via.refl e423 F430 F428 (Or.inr ⟨(wT hw 79 rfl), rfl, hnm⟩) (wT hw 64 rfl) (ty := .double) (by decide) rfl rfl (g := (mkF m 46 #[.val (.ref a), .val (.double x), .second, .val (.double y), .second] [(.double y), (.ref a)])) rfl rfl (hb hby own_h152)
  have N439 := Fr.snoc X435 N426 g1
  have hk440 := Nat.le_trans hk427 (show h421.size ≤ h434.size from Nat.le_of_eq W437.size.symm)
  have F441 := Exa.wr W437 F428
  have F442 := Fld.other W437 F429 (Or.inr (slot_ne (Or.inr (wT hw 77 rfl)) (Or.inr (wT hw 79 rfl)) (by decide) (t := .double) (t' := .double) (by decide) (by decide)))
  have F443 : Fld Z h434 a "com/example/ample_gap/amplegap/simulation/OnRamp" "end" "D" (.double y) := Fld.same W437 F430
  have Z444 : n0 ≤ h434.size := W437.size ▸ Z431
  have P445 : Keep h0 h434 [a] := P432.wr W437 (Or.inl (List.mem_of_getElem? (i := 0) rfl))
  have k13 : own_K p e below (T433.setTop (mkF m 49 #[.val (.ref a), .val (.double x), .second, .val (.double y), .second] [])) (s₁.setTop (entryFrame m #[(.ref a), (.double x), (.double y)] 5)) := fun t hh => k12 t (st438 t hh)
  obtain ⟨fs, hr, hrun, hended, hEnd⟩ := X435.leaveW hS396 (by rw [e436]; exact hk440) (v := none) (fun _ => rfl)
  refine ⟨_, _, k13 _ (X435.returnOut hx Bd.returns (hb hby own_h153) hr), hrun, hended, _, _, rfl, ?_, hEnd.1, hEnd.2.1, hEnd.2.2.1, hEnd.2.2.2.mono (by decide) (by decide)⟩
  show QO Z a x y h0 n0 _ T433.heap _
  rw [e436]
  exact ⟨rfl, N439, P445, F441, F443⟩
theorem own_h155 : decode jdk_31_method_11_code 0 = .ok (.aload_n 0, 1) := by decide +kernel
theorem own_h156 : decode jdk_31_method_11_code 1 = .ok (.ifnonnull 12, 3) := by decide +kernel
theorem own_h157 : decode jdk_31_method_11_code 4 = .ok (.new 84, 3) := by decide +kernel
theorem own_h158 : decode jdk_31_method_11_code 7 = .ok (.dup, 1) := by decide +kernel
theorem own_h159 : decode jdk_31_method_11_code 8 = .ok (.aload_n 1, 1) := by decide +kernel
theorem own_h160 : decode jdk_31_method_11_code 9 = .ok (.invokespecial 87, 3) := by decide +kernel
theorem own_h161 : decode jdk_31_method_11_code 12 = .ok (.athrow, 1) := by decide +kernel
theorem own_h162 : decode jdk_31_method_11_code 13 = .ok (.aload_n 0, 1) := by decide +kernel
theorem own_h163 : decode jdk_31_method_11_code 14 = .ok (.areturn, 1) := by decide +kernel
theorem own_h164 : plainName "java/util/Objects" = true := by first | (simp [plainName, overriddenIn]; done) | decide +kernel
set_option maxRecDepth 65536 in
set_option maxHeartbeats 40000000 in
theorem rmNn (l : Launch) (Z : State) (a0 : Array Value) (hw : ∀ d ∈ tables_1, d.before a0 Z = true) (ws : List Jvm.Cond) (ra sa : Addr) (h0 : Heap) (n0 : Nat) (Z0 : n0 ≤ h0.size) :
    MetFree l (⟨"java/util/Objects", "requireNonNull", "(Ljava/lang/Object;Ljava/lang/String;)Ljava/lang/Object;"⟩ : MethodName) (head1 (Jvm.Cond.code (⟨"java/util/Objects", "requireNonNull", "(Ljava/lang/Object;Ljava/lang/String;)Ljava/lang/Object;"⟩ : MethodName) jdk_31_method_11_code 2 (some (.object "java/lang/Object")) :: ws) ({ frames := 0, cells := 0, slots := 0, locals := 0 } : Room)) (fun ar_ U => ar_ = #[(.ref ra), (.ref sa)] ∧ Z.Warmed39 U.vm ∧ U.heap = h0) (fun _ _ _ _ _ => True) (fun _ U o U' => ∃ v L, o = .returned v ∧ QR ra h0 n0 v U'.heap L ∧ FrameEnd U o U' L ({ frames := 0, cells := 0, slots := 0, locals := 0 } : Room).cells ({ frames := 0, cells := 0, slots := 0, locals := 0 } : Room).slots) := by
  refine MetFree.of_bodySF (plainFor_of_name own_h164) hisR ?_
  intro p e s m args below meth c s₁ Bd hml0 hP hK
  obtain ⟨rfl, hZ, hh⟩ := hP
  have hx := Bd.exec
  have hby := Bd.bytes
  have hml : c.maxLocals = 2 := hml0
  have hown : s.vm.findClass "java/util/Objects" = some m.cls := findClass_of_methodNamed Bd.named
  have hnm := (name_of_methodNamed Bd.named Bd.method).1
  have X0 : Stand p l e ({ frames := 0, cells := 0, slots := 0, locals := 0 } : Room) s m #[(.ref ra), (.ref sa)] below meth c s₁ [] 0 0 := Stand.of_body Bd
  have e0 : s₁.heap = h0 := by rw [← hh, Bd.state]; rfl
  have N0 := Fr.nil n0
  have k0 : own_K p e below (s₁.setTop (mkF m 0 #[.val (.ref ra), .val (.ref sa)] [])) (s₁.setTop (entryFrame m #[(.ref ra), (.ref sa)] 2)) := fun t k => castTop (by clear k; first | (simp [entryFrame, mkF, argsToLocals, Value.category, maxLocals]; done) | rfl) k
  have k1 : own_K p e below (s₁.setTop (mkF m 14 #[.val (.ref ra), .val (.ref sa)] [(.ref ra)])) (s₁.setTop (entryFrame m #[(.ref ra), (.ref sa)] 2)) := fun t hh => k0 t (by
    refine XS.aloadN X0.here hx rfl (hb hby own_h155) rfl rfl ?_
    show Steps p.tables e below (s₁.setTop (mkF m 1 #[.val (.ref ra), .val (.ref sa)] [(.ref ra)])) _
    refine XS.ifnonnullYes X0.here hx rfl (pc0 := 1) (pc' := 13) rfl (hb hby own_h156) rfl (by decide) (by decide) ?_
    show Steps p.tables e below (s₁.setTop (mkF m 13 #[.val (.ref ra), .val (.ref sa)] [])) _
    refine XS.aloadN X0.here hx rfl (hb hby own_h162) rfl rfl ?_
    show Steps p.tables e below (s₁.setTop (mkF m 14 #[.val (.ref ra), .val (.ref sa)] [(.ref ra)])) _
    exact hh)
  obtain ⟨fs, hr, hrun, hended, hW, hsame⟩ := X0.leave (v := some (.ref ra)) (fun h => by rw [Bd.returns] at h; cases h)
  refine ⟨_, _, k1 _ (retOut X0 hx (t := .object "java/lang/Object") Bd.returns rfl (Or.inr (Or.inr (Or.inr (Or.inr ⟨rfl, rfl, rfl⟩)))) (hb hby own_h163) hr), hrun, hended, _, _, rfl, ?_, ⟨_, rfl⟩, hW, hsame.mono (by decide) (by decide)⟩
  show QR ra h0 n0 _ s₁.heap _
  rw [e0]
  exact ⟨rfl, N0, rfl⟩
theorem own_h165 : decode prog_45_method_3_code 0 = .ok (.aload_n 0, 1) := by decide +kernel
theorem own_h166 : decode prog_45_method_3_code 1 = .ok (.getfield 35, 3) := by decide +kernel
theorem own_h167 : decode prog_45_method_3_code 4 = .ok (.dreturn, 1) := by decide +kernel
set_option maxRecDepth 65536 in
set_option maxHeartbeats 40000000 in
theorem rmEn (l : Launch) (Z : State) (a0 : Array Value) (hw : ∀ d ∈ tables_1, d.before a0 Z = true) (ws : List Jvm.Cond) (a : Addr) (y : UInt64) (h0 : Heap) (n0 : Nat) (Z0 : n0 ≤ h0.size) (F1 : Fld Z h0 a "com/example/ample_gap/amplegap/simulation/OnRamp" "end" "D" (.double y)) :
    MetFree l (⟨"com/example/ample_gap/amplegap/simulation/OnRamp", "end", "()D"⟩ : MethodName) (head1 (Jvm.Cond.code (⟨"com/example/ample_gap/amplegap/simulation/OnRamp", "end", "()D"⟩ : MethodName) prog_45_method_3_code 1 (some .double) :: ws) ({ frames := 0, cells := 0, slots := 0, locals := 0 } : Room)) (fun ar_ U => ar_ = #[(.ref a)] ∧ Z.Warmed39 U.vm ∧ U.heap = h0) (fun _ _ _ _ _ => True) (fun _ U o U' => ∃ v L, o = .returned v ∧ QD y h0 n0 v U'.heap L ∧ FrameEnd U o U' L ({ frames := 0, cells := 0, slots := 0, locals := 0 } : Room).cells ({ frames := 0, cells := 0, slots := 0, locals := 0 } : Room).slots) := by
  refine MetFree.of_bodySF (plainFor_of_name own_h154) hisR ?_
  intro p e s m args below meth c s₁ Bd hml0 hP hK
  obtain ⟨rfl, hZ, hh⟩ := hP
  have hx := Bd.exec
  have hby := Bd.bytes
  have hml : c.maxLocals = 1 := hml0
  have hown : s.vm.findClass "com/example/ample_gap/amplegap/simulation/OnRamp" = some m.cls := findClass_of_methodNamed Bd.named
  have hnm := (name_of_methodNamed Bd.named Bd.method).1
  have X0 : Stand p l e ({ frames := 0, cells := 0, slots := 0, locals := 0 } : Room) s m #[(.ref a)] below meth c s₁ [] 0 0 := Stand.of_body Bd
  have e0 : s₁.heap = h0 := by rw [← hh, Bd.state]; rfl
  have N0 := Fr.nil n0
  have k0 : own_K p e below (s₁.setTop (mkF m 0 #[.val (.ref a)] [])) (s₁.setTop (entryFrame m #[(.ref a)] 1)) := fun t k => castTop (by clear k; first | (simp [entryFrame, mkF, argsToLocals, Value.category, maxLocals]; done) | rfl) k
  have k1 : own_K p e below (s₁.setTop (mkF m 1 #[.val (.ref a)] [(.ref a)])) (s₁.setTop (entryFrame m #[(.ref a)] 1)) := fun t hh => k0 t (by
    refine XS.aloadN X0.here hx rfl (hb hby own_h165) rfl rfl ?_
    show Steps p.tables e below (s₁.setTop (mkF m 1 #[.val (.ref a)] [(.ref a)])) _
    exact hh)
  obtain ⟨T446, X447, e448, st449⟩ := getF X0 hx hZ hown (host := "") (Or.inl (wT hw 78 rfl)) Via.refl e0 F1 (g := (mkF m 1 #[.val (.ref a)] [(.ref a)])) rfl rfl (hb hby own_h166)
  have k2 : own_K p e below (T446.setTop (mkF m 4 #[.val (.ref a)] [(.double y)])) (s₁.setTop (entryFrame m #[(.ref a)] 1)) := fun t hh => k1 t (st449 t hh)
  obtain ⟨fs, hr, hrun, hended, hW, hsame⟩ := X447.leave (v := some (.double y)) (fun h => by rw [Bd.returns] at h; cases h)
  refine ⟨_, _, k2 _ (retOut X447 hx (t := .double) Bd.returns rfl (Or.inr (Or.inr (Or.inl ⟨rfl, rfl, _, rfl⟩))) (hb hby own_h167) hr), hrun, hended, _, _, rfl, ?_, ⟨_, rfl⟩, hW, hsame.mono (by decide) (by decide)⟩
  show QD y h0 n0 _ T446.heap _
  rw [e448]
  exact ⟨rfl, N0, rfl⟩
def QB (Z : State) (a r : Addr) (n : Int32) (h0 : Heap) (n0 : Nat) (v : Option Value) (h : Heap) (L : List Loc) : Prop := v = none ∧ Fr n0 L ∧ Keep h0 h [a] ∧ Exa Z h a "com/example/ample_gap/amplegap/simulation/Road" ∧ Fld Z h a "com/example/ample_gap/amplegap/simulation/Road" "lanes" "I" (.int n) ∧ Fld Z h a "com/example/ample_gap/amplegap/simulation/Road" "onRamp" "Lcom/example/ample_gap/amplegap/simulation/OnRamp;" (.ref r)
theorem own_h168 : decode prog_49_method_4_code 0 = .ok (.aload_n 0, 1) := by decide +kernel
theorem own_h169 : decode prog_49_method_4_code 1 = .ok (.invokespecial 7, 3) := by decide +kernel
theorem own_h170 : decode prog_49_method_4_code 4 = .ok (.aload_n 0, 1) := by decide +kernel
theorem own_h171 : decode prog_49_method_4_code 5 = .ok (.aload_n 1, 1) := by decide +kernel
theorem own_h172 : decode prog_49_method_4_code 6 = .ok (.getfield 31, 3) := by decide +kernel
theorem own_h173 : decode prog_49_method_4_code 9 = .ok (.putfield 31, 3) := by decide +kernel
theorem own_h174 : decode prog_49_method_4_code 12 = .ok (.aload_n 0, 1) := by decide +kernel
theorem own_h175 : decode prog_49_method_4_code 13 = .ok (.aload_n 1, 1) := by decide +kernel
theorem own_h176 : decode prog_49_method_4_code 14 = .ok (.getfield 35, 3) := by decide +kernel
theorem own_h177 : decode prog_49_method_4_code 17 = .ok (.putfield 35, 3) := by decide +kernel
theorem own_h178 : decode prog_49_method_4_code 20 = .ok (.aload_n 0, 1) := by decide +kernel
theorem own_h179 : decode prog_49_method_4_code 21 = .ok (.aload_n 1, 1) := by decide +kernel
theorem own_h180 : decode prog_49_method_4_code 22 = .ok (.getfield 39, 3) := by decide +kernel
theorem own_h181 : decode prog_49_method_4_code 25 = .ok (.putfield 39, 3) := by decide +kernel
theorem own_h182 : decode prog_49_method_4_code 28 = .ok (.aload_n 0, 1) := by decide +kernel
theorem own_h183 : decode prog_49_method_4_code 29 = .ok (.aload_n 2, 1) := by decide +kernel
theorem own_h184 : decode prog_49_method_4_code 30 = .ok (.putfield 43, 3) := by decide +kernel
theorem own_h185 : decode prog_49_method_4_code 33 = .ok (.return_, 1) := by decide +kernel
set_option maxRecDepth 65536 in
set_option maxHeartbeats 40000000 in
theorem rmB (l : Launch) (Z : State) (a0 : Array Value) (hw : ∀ d ∈ tables_1, d.before a0 Z = true) (ws : List Jvm.Cond) (a b r : Addr) (d : UInt64) (n z : Int32) (h0 : Heap) (n0 : Nat) (Z0 : n0 ≤ h0.size) (E1 : Exa Z h0 a "com/example/ample_gap/amplegap/simulation/Road") (g1 : n0 ≤ a) (F1 : Fld Z h0 a "com/example/ample_gap/amplegap/simulation/Road" "length" "D" (.double (0 : UInt64))) (F2 : Fld Z h0 a "com/example/ample_gap/amplegap/simulation/Road" "lanes" "I" (.int (0 : Int32))) (F3 : Fld Z h0 a "com/example/ample_gap/amplegap/simulation/Road" "ring" "Z" (.int (0 : Int32))) (F4 : Fld Z h0 a "com/example/ample_gap/amplegap/simulation/Road" "onRamp" "Lcom/example/ample_gap/amplegap/simulation/OnRamp;" .null) (nba : b ≠ a) (B1 : Fld Z h0 b "com/example/ample_gap/amplegap/simulation/Road" "length" "D" (.double d)) (B2 : Fld Z h0 b "com/example/ample_gap/amplegap/simulation/Road" "lanes" "I" (.int n)) (B3 : Fld Z h0 b "com/example/ample_gap/amplegap/simulation/Road" "ring" "Z" (.int z)) (hz1 : narrow .boolean (.int z) = .int z) (hz2 : fits .boolean (.int z) = true) :
    MetFree l (⟨"com/example/ample_gap/amplegap/simulation/Road", "<init>", "(Lcom/example/ample_gap/amplegap/simulation/Road;Lcom/example/ample_gap/amplegap/simulation/OnRamp;)V"⟩ : MethodName) (head1 (Jvm.Cond.code (⟨"com/example/ample_gap/amplegap/simulation/Road", "<init>", "(Lcom/example/ample_gap/amplegap/simulation/Road;Lcom/example/ample_gap/amplegap/simulation/OnRamp;)V"⟩ : MethodName) prog_49_method_4_code 3 none :: ws) ({ frames := 1, cells := 0, slots := 0, locals := 12 } : Room)) (fun ar_ U => ar_ = #[(.ref a), (.ref b), (.ref r)] ∧ Z.Warmed39 U.vm ∧ U.heap = h0) (fun _ _ _ _ _ => True) (fun _ U o U' => ∃ v L, o = .returned v ∧ QB Z a r n h0 n0 v U'.heap L ∧ FrameEnd U o U' L ({ frames := 1, cells := 0, slots := 0, locals := 12 } : Room).cells ({ frames := 1, cells := 0, slots := 0, locals := 12 } : Room).slots) := by
  refine MetFree.of_bodySF (plainFor_of_name own_h106) hisR ?_
  intro p e s m args below meth c s₁ Bd hml0 hP hK
  obtain ⟨rfl, hZ, hh⟩ := hP
  have hx := Bd.exec
  have hby := Bd.bytes
  have hml : c.maxLocals = 3 := hml0
  have hown : s.vm.findClass "com/example/ample_gap/amplegap/simulation/Road" = some m.cls := findClass_of_methodNamed Bd.named
  have hnm := (name_of_methodNamed Bd.named Bd.method).1
  have X0 : Stand p l e ({ frames := 1, cells := 0, slots := 0, locals := 12 } : Room) s m #[(.ref a), (.ref b), (.ref r)] below meth c s₁ [] 0 0 := Stand.of_body Bd
  have e0 : s₁.heap = h0 := by rw [← hh, Bd.state]; rfl
  have N0 := Fr.nil n0
  have k0 : own_K p e below (s₁.setTop (mkF m 0 #[.val (.ref a), .val (.ref b), .val (.ref r)] [])) (s₁.setTop (entryFrame m #[(.ref a), (.ref b), (.ref r)] 3)) := fun t k => castTop (by clear k; first | (simp [entryFrame, mkF, argsToLocals, Value.category, maxLocals]; done) | rfl) k
  have K0 : Keep h0 h0 [a] := Keep.refl _ _
  have k1 : own_K p e below (s₁.setTop (mkF m 1 #[.val (.ref a), .val (.ref b), .val (.ref r)] [(.ref a)])) (s₁.setTop (entryFrame m #[(.ref a), (.ref b), (.ref r)] 3)) := fun t hh => k0 t (by
    refine XS.aloadN X0.here hx rfl (hb hby own_h168) rfl rfl ?_
    show Steps p.tables e below (s₁.setTop (mkF m 1 #[.val (.ref a), .val (.ref b), .val (.ref r)] [(.ref a)])) _
    exact hh)
  obtain ⟨T450, X451, e452, st453⟩ := initO X0 hx hZ hown (wT hw 10 rfl) (wT hw 11 rfl) (wT hw 12 rfl) e0 (g := (mkF m 1 #[.val (.ref a), .val (.ref b), .val (.ref r)] [(.ref a)])) rfl (by rw [hml]; rfl) rfl (hb hby own_h169) (by decide) (W := 0) (by show 2 * 0 + _ ≤ _; exact Nat.le_of_eq rfl) (by decide)
  have k2 : own_K p e below (T450.setTop (mkF m 4 #[.val (.ref a), .val (.ref b), .val (.ref r)] [])) (s₁.setTop (entryFrame m #[(.ref a), (.ref b), (.ref r)] 3)) := fun t hh => k1 t (st453 t hh)
  have k3 : own_K p e below (T450.setTop (mkF m 6 #[.val (.ref a), .val (.ref b), .val (.ref r)] [(.ref b), (.ref a)])) (s₁.setTop (entryFrame m #[(.ref a), (.ref b), (.ref r)] 3)) := fun t hh => k2 t (by
    refine XS.aloadN X451.here hx rfl (hb hby own_h170) rfl rfl ?_
    show Steps p.tables e below (T450.setTop (mkF m 5 #[.val (.ref a), .val (.ref b), .val (.ref r)] [(.ref a)])) _
    refine XS.aloadN X451.here hx rfl (hb hby own_h171) rfl rfl ?_
    show Steps p.tables e below (T450.setTop (mkF m 6 #[.val (.ref a), .val (.ref b), .val (.ref r)] [(.ref b), (.ref a)])) _
    exact hh)
  obtain ⟨T454, X455, e456, st457⟩ := getF X451 hx hZ hown (host := "") (Or.inl (wT hw 37 rfl)) Via.refl e452 B1 (g := (mkF m 6 #[.val (.ref a), .val (.ref b), .val (.ref r)] [(.ref b), (.ref a)])) rfl rfl (hb hby own_h172)
  have k4 : own_K p e below (T454.setTop (mkF m 9 #[.val (.ref a), .val (.ref b), .val (.ref r)] [(.double d), (.ref a)])) (s₁.setTop (entryFrame m #[(.ref a), (.ref b), (.ref r)] 3)) := fun t hh => k3 t (st457 t hh)
  obtain ⟨T458, h459, X460, e461, W462, st463⟩ := putF X455 hx hZ hown (host := "") (Or.inl (wT hw 37 rfl)) Via.refl e456 F1 E1 (Or.inr ⟨(wT hw 38 rfl), rfl, hnm⟩) (wT hw 2 rfl) (ty := .double) (by decide) rfl rfl (g := (mkF m 9 #[.val (.ref a), .val (.ref b), .val (.ref r)] [(.double d), (.ref a)])) rfl rfl (hb hby own_h173)
  have N464 := Fr.snoc X460 N0 g1
  have F465 := Exa.wr W462 E1
  have F466 : Fld Z h459 a "com/example/ample_gap/amplegap/simulation/Road" "length" "D" (.double d) := Fld.same W462 F1
  have F467 := Fld.other W462 F2 (Or.inr (slot_ne (Or.inr (wT hw 40 rfl)) (Or.inr (wT hw 38 rfl)) (by decide) (t := .int) (t' := .double) (by decide) (by decide)))
  have F468 := Fld.other W462 F3 (Or.inr (slot_ne (Or.inr (wT hw 42 rfl)) (Or.inr (wT hw 38 rfl)) (by decide) (t := .boolean) (t' := .double) (by decide) (by decide)))
  have F469 := Fld.other W462 F4 (Or.inr (slot_ne (Or.inr (wT hw 44 rfl)) (Or.inr (wT hw 38 rfl)) (by decide) (t := (.object "com/example/ample_gap/amplegap/simulation/OnRamp")) (t' := .double) (by decide) (by decide)))
  have F470 := Fld.other W462 B1 (Or.inl nba)
  have F471 := Fld.other W462 B2 (Or.inl nba)
  have F472 := Fld.other W462 B3 (Or.inl nba)
  have Z473 : n0 ≤ h459.size := W462.size ▸ Z0
  have P474 : Keep h0 h459 [a] := K0.wr W462 (Or.inl (List.mem_of_getElem? (i := 0) rfl))
  have k5 : own_K p e below (T458.setTop (mkF m 12 #[.val (.ref a), .val (.ref b), .val (.ref r)] [])) (s₁.setTop (entryFrame m #[(.ref a), (.ref b), (.ref r)] 3)) := fun t hh => k4 t (st463 t hh)
  have k6 : own_K p e below (T458.setTop (mkF m 14 #[.val (.ref a), .val (.ref b), .val (.ref r)] [(.ref b), (.ref a)])) (s₁.setTop (entryFrame m #[(.ref a), (.ref b), (.ref r)] 3)) := fun t hh => k5 t (by
    refine XS.aloadN X460.here hx rfl (hb hby own_h174) rfl rfl ?_
    show Steps p.tables e below (T458.setTop (mkF m 13 #[.val (.ref a), .val (.ref b), .val (.ref r)] [(.ref a)])) _
    refine XS.aloadN X460.here hx rfl (hb hby own_h175) rfl rfl ?_
    show Steps p.tables e below (T458.setTop (mkF m 14 #[.val (.ref a), .val (.ref b), .val (.ref r)] [(.ref b), (.ref a)])) _
    exact hh)
  obtain ⟨T475, X476, e477, st478⟩ := getF X460 hx hZ hown (host := "") (Or.inl (wT hw 39 rfl)) Via.refl e461 F471 (g := (mkF m 14 #[.val (.ref a), .val (.ref b), .val (.ref r)] [(.ref b), (.ref a)])) rfl rfl (hb hby own_h176)
  have k7 : own_K p e below (T475.setTop (mkF m 17 #[.val (.ref a), .val (.ref b), .val (.ref r)] [(.int n), (.ref a)])) (s₁.setTop (entryFrame m #[(.ref a), (.ref b), (.ref r)] 3)) := fun t hh => k6 t (st478 t hh)
  obtain ⟨T479, h480, X481, e482, W483, st484⟩ := putF X476 hx hZ hown (host := "") (Or.inl (wT hw 39 rfl)) Via.refl e477 F467 F465 (Or.inr ⟨(wT hw 40 rfl), rfl, hnm⟩) (wT hw 2 rfl) (ty := .int) (by decide) rfl rfl (g := (mkF m 17 #[.val (.ref a), .val (.ref b), .val (.ref r)] [(.int n), (.ref a)])) rfl rfl (hb hby own_h177)
  have N485 := Fr.snoc X481 N464 g1
  have F486 := Exa.wr W483 F465
  have F487 := Fld.other W483 F466 (Or.inr (slot_ne (Or.inr (wT hw 38 rfl)) (Or.inr (wT hw 40 rfl)) (by decide) (t := .double) (t' := .int) (by decide) (by decide)))
  have F488 : Fld Z h480 a "com/example/ample_gap/amplegap/simulation/Road" "lanes" "I" (.int n) := Fld.same W483 F467
  have F489 := Fld.other W483 F468 (Or.inr (slot_ne (Or.inr (wT hw 42 rfl)) (Or.inr (wT hw 40 rfl)) (by decide) (t := .boolean) (t' := .int) (by decide) (by decide)))
  have F490 := Fld.other W483 F469 (Or.inr (slot_ne (Or.inr (wT hw 44 rfl)) (Or.inr (wT hw 40 rfl)) (by decide) (t := (.object "com/example/ample_gap/amplegap/simulation/OnRamp")) (t' := .int) (by decide) (by decide)))
  have F491 := Fld.other W483 F470 (Or.inl nba)
  have F492 := Fld.other W483 F471 (Or.inl nba)
  have F493 := Fld.other W483 F472 (Or.inl nba)
  have Z494 : n0 ≤ h480.size := W483.size ▸ Z473
  have P495 : Keep h0 h480 [a] := P474.wr W483 (Or.inl (List.mem_of_getElem? (i := 0) rfl))
  have k8 : own_K p e below (T479.setTop (mkF m 20 #[.val (.ref a), .val (.ref b), .val (.ref r)] [])) (s₁.setTop (entryFrame m #[(.ref a), (.ref b), (.ref r)] 3)) := fun t hh => k7 t (st484 t hh)
  have k9 : own_K p e below (T479.setTop (mkF m 22 #[.val (.ref a), .val (.ref b), .val (.ref r)] [(.ref b), (.ref a)])) (s₁.setTop (entryFrame m #[(.ref a), (.ref b), (.ref r)] 3)) := fun t hh => k8 t (by
    refine XS.aloadN X481.here hx rfl (hb hby own_h178) rfl rfl ?_
    show Steps p.tables e below (T479.setTop (mkF m 21 #[.val (.ref a), .val (.ref b), .val (.ref r)] [(.ref a)])) _
    refine XS.aloadN X481.here hx rfl (hb hby own_h179) rfl rfl ?_
    show Steps p.tables e below (T479.setTop (mkF m 22 #[.val (.ref a), .val (.ref b), .val (.ref r)] [(.ref b), (.ref a)])) _
    exact hh)
  obtain ⟨T496, X497, e498, st499⟩ := getF X481 hx hZ hown (host := "") (Or.inl (wT hw 41 rfl)) Via.refl e482 F493 (g := (mkF m 22 #[.val (.ref a), .val (.ref b), .val (.ref r)] [(.ref b), (.ref a)])) rfl rfl (hb hby own_h180)
  have k10 : own_K p e below (T496.setTop (mkF m 25 #[.val (.ref a), .val (.ref b), .val (.ref r)] [(.int z), (.ref a)])) (s₁.setTop (entryFrame m #[(.ref a), (.ref b), (.ref r)] 3)) := fun t hh => k9 t (st499 t hh)
  obtain ⟨T500, h501, X502, e503, W504, st505⟩ := putF X497 hx hZ hown (host := "") (Or.inl (wT hw 41 rfl)) Via.refl e498 F489 F486 (Or.inr ⟨(wT hw 42 rfl), rfl, hnm⟩) (wT hw 2 rfl) (ty := .boolean) (by decide) hz1 hz2 (g := (mkF m 25 #[.val (.ref a), .val (.ref b), .val (.ref r)] [(.int z), (.ref a)])) rfl rfl (hb hby own_h181)
  have N506 := Fr.snoc X502 N485 g1
  have F507 := Exa.wr W504 F486
  have F508 := Fld.other W504 F487 (Or.inr (slot_ne (Or.inr (wT hw 38 rfl)) (Or.inr (wT hw 42 rfl)) (by decide) (t := .double) (t' := .boolean) (by decide) (by decide)))
  have F509 := Fld.other W504 F488 (Or.inr (slot_ne (Or.inr (wT hw 40 rfl)) (Or.inr (wT hw 42 rfl)) (by decide) (t := .int) (t' := .boolean) (by decide) (by decide)))
  have F510 : Fld Z h501 a "com/example/ample_gap/amplegap/simulation/Road" "ring" "Z" (.int z) := Fld.same W504 F489
  have F511 := Fld.other W504 F490 (Or.inr (slot_ne (Or.inr (wT hw 44 rfl)) (Or.inr (wT hw 42 rfl)) (by decide) (t := (.object "com/example/ample_gap/amplegap/simulation/OnRamp")) (t' := .boolean) (by decide) (by decide)))
  have F512 := Fld.other W504 F491 (Or.inl nba)
  have F513 := Fld.other W504 F492 (Or.inl nba)
  have F514 := Fld.other W504 F493 (Or.inl nba)
  have Z515 : n0 ≤ h501.size := W504.size ▸ Z494
  have P516 : Keep h0 h501 [a] := P495.wr W504 (Or.inl (List.mem_of_getElem? (i := 0) rfl))
  have k11 : own_K p e below (T500.setTop (mkF m 28 #[.val (.ref a), .val (.ref b), .val (.ref r)] [])) (s₁.setTop (entryFrame m #[(.ref a), (.ref b), (.ref r)] 3)) := fun t hh => k10 t (st505 t hh)
  have k12 : own_K p e below (T500.setTop (mkF m 30 #[.val (.ref a), .val (.ref b), .val (.ref r)] [(.ref r), (.ref a)])) (s₁.setTop (entryFrame m #[(.ref a), (.ref b), (.ref r)] 3)) := fun t hh => k11 t (by
    refine XS.aloadN X502.here hx rfl (hb hby own_h182) rfl rfl ?_
    show Steps p.tables e below (T500.setTop (mkF m 29 #[.val (.ref a), .val (.ref b), .val (.ref r)] [(.ref a)])) _
    refine XS.aloadN X502.here hx rfl (hb hby own_h183) rfl rfl ?_
    show Steps p.tables e below (T500.setTop (mkF m 30 #[.val (.ref a), .val (.ref b), .val (.ref r)] [(.ref r), (.ref a)])) _
    exact hh)
  obtain ⟨T517, h518, X519, e520, W521, st522⟩ := putF X502 hx hZ hown (host := "") (Or.inl (wT hw 43 rfl)) Via.refl e503 F511 F507 (Or.inr ⟨(wT hw 44 rfl), rfl, hnm⟩) (wT hw 2 rfl) (ty := .object "com/example/ample_gap/amplegap/simulation/OnRamp") (by decide) rfl rfl (g := (mkF m 30 #[.val (.ref a), .val (.ref b), .val (.ref r)] [(.ref r), (.ref a)])) rfl rfl (hb hby own_h184)
  have N523 := Fr.snoc X519 N506 g1
  have F524 := Exa.wr W521 F507
  have F525 := Fld.other W521 F508 (Or.inr (slot_ne (Or.inr (wT hw 38 rfl)) (Or.inr (wT hw 44 rfl)) (by decide) (t := .double) (t' := (.object "com/example/ample_gap/amplegap/simulation/OnRamp")) (by decide) (by decide)))
  have F526 := Fld.other W521 F509 (Or.inr (slot_ne (Or.inr (wT hw 40 rfl)) (Or.inr (wT hw 44 rfl)) (by decide) (t := .int) (t' := (.object "com/example/ample_gap/amplegap/simulation/OnRamp")) (by decide) (by decide)))
  have F527 := Fld.other W521 F510 (Or.inr (slot_ne (Or.inr (wT hw 42 rfl)) (Or.inr (wT hw 44 rfl)) (by decide) (t := .boolean) (t' := (.object "com/example/ample_gap/amplegap/simulation/OnRamp")) (by decide) (by decide)))
  have F528 : Fld Z h518 a "com/example/ample_gap/amplegap/simulation/Road" "onRamp" "Lcom/example/ample_gap/amplegap/simulation/OnRamp;" (.ref r) := Fld.same W521 F511
  have F529 := Fld.other W521 F512 (Or.inl nba)
  have F530 := Fld.other W521 F513 (Or.inl nba)
  have F531 := Fld.other W521 F514 (Or.inl nba)
  have Z532 : n0 ≤ h518.size := W521.size ▸ Z515
  have P533 : Keep h0 h518 [a] := P516.wr W521 (Or.inl (List.mem_of_getElem? (i := 0) rfl))
  have k13 : own_K p e below (T517.setTop (mkF m 33 #[.val (.ref a), .val (.ref b), .val (.ref r)] [])) (s₁.setTop (entryFrame m #[(.ref a), (.ref b), (.ref r)] 3)) := fun t hh => k12 t (st522 t hh)
  obtain ⟨fs, hr, hrun, hended, hW, hsame⟩ := X519.leave (v := none) (fun _ => rfl)
  refine ⟨_, _, k13 _ (X519.returnOut hx Bd.returns (hb hby own_h185) hr), hrun, hended, _, _, rfl, ?_, ⟨_, rfl⟩, hW, hsame.mono (by decide) (by decide)⟩
  show QB Z a r n h0 n0 _ T517.heap _
  rw [e520]
  exact ⟨rfl, N523, P533, F524, F526, F528⟩
def QW (Z : State) (r : Addr) (n : Int32) (h0 : Heap) (n0 : Nat) (v : Option Value) (h : Heap) (L : List Loc) : Prop := ∃ b : Addr, v = some (.ref b) ∧ Fr n0 L ∧ Keep h0 h [] ∧ n0 ≤ b ∧ Exa Z h b "com/example/ample_gap/amplegap/simulation/Road" ∧ Fld Z h b "com/example/ample_gap/amplegap/simulation/Road" "lanes" "I" (.int n) ∧ Fld Z h b "com/example/ample_gap/amplegap/simulation/Road" "onRamp" "Lcom/example/ample_gap/amplegap/simulation/OnRamp;" (.ref r)
theorem own_h186 : decode prog_49_method_10_code 0 = .ok (.aload_n 1, 1) := by decide +kernel
theorem own_h187 : decode prog_49_method_10_code 1 = .ok (.ldc 47, 2) := by decide +kernel
theorem own_h188 : decode prog_49_method_10_code 3 = .ok (.invokestatic 49, 3) := by decide +kernel
theorem own_h189 : decode prog_49_method_10_code 6 = .ok (.pop, 1) := by decide +kernel
theorem own_h190 : decode prog_49_method_10_code 7 = .ok (.aload_n 0, 1) := by decide +kernel
theorem own_h191 : decode prog_49_method_10_code 8 = .ok (.getfield 39, 3) := by decide +kernel
theorem own_h192 : decode prog_49_method_10_code 11 = .ok (.ifCond .eq 13, 3) := by decide +kernel
theorem own_h193 : decode prog_49_method_10_code 14 = .ok (.new 12, 3) := by decide +kernel
theorem own_h194 : decode prog_49_method_10_code 17 = .ok (.dup, 1) := by decide +kernel
theorem own_h195 : decode prog_49_method_10_code 18 = .ok (.ldc 55, 2) := by decide +kernel
theorem own_h196 : decode prog_49_method_10_code 20 = .ok (.invokespecial 18, 3) := by decide +kernel
theorem own_h197 : decode prog_49_method_10_code 23 = .ok (.athrow, 1) := by decide +kernel
theorem own_h198 : decode prog_49_method_10_code 24 = .ok (.aload_n 1, 1) := by decide +kernel
theorem own_h199 : decode prog_49_method_10_code 25 = .ok (.invokevirtual 57, 3) := by decide +kernel
theorem own_h200 : decode prog_49_method_10_code 28 = .ok (.aload_n 0, 1) := by decide +kernel
theorem own_h201 : decode prog_49_method_10_code 29 = .ok (.getfield 31, 3) := by decide +kernel
theorem own_h202 : decode prog_49_method_10_code 32 = .ok (.dcmp .l, 1) := by decide +kernel
theorem own_h203 : decode prog_49_method_10_code 33 = .ok (.ifCond .le 24, 3) := by decide +kernel
theorem own_h204 : decode prog_49_method_10_code 36 = .ok (.new 12, 3) := by decide +kernel
theorem own_h205 : decode prog_49_method_10_code 39 = .ok (.dup, 1) := by decide +kernel
theorem own_h206 : decode prog_49_method_10_code 40 = .ok (.aload_n 1, 1) := by decide +kernel
theorem own_h207 : decode prog_49_method_10_code 41 = .ok (.invokevirtual 57, 3) := by decide +kernel
theorem own_h208 : decode prog_49_method_10_code 44 = .ok (.aload_n 0, 1) := by decide +kernel
theorem own_h209 : decode prog_49_method_10_code 45 = .ok (.getfield 31, 3) := by decide +kernel
theorem own_h210 : decode prog_49_method_10_code 48 = .ok (.invokedynamic 63, 5) := by decide +kernel
theorem own_h211 : decode prog_49_method_10_code 53 = .ok (.invokespecial 18, 3) := by decide +kernel
theorem own_h212 : decode prog_49_method_10_code 56 = .ok (.athrow, 1) := by decide +kernel
theorem own_h213 : decode prog_49_method_10_code 57 = .ok (.new 2, 3) := by decide +kernel
theorem own_h214 : decode prog_49_method_10_code 60 = .ok (.dup, 1) := by decide +kernel
theorem own_h215 : decode prog_49_method_10_code 61 = .ok (.aload_n 0, 1) := by decide +kernel
theorem own_h216 : decode prog_49_method_10_code 62 = .ok (.aload_n 1, 1) := by decide +kernel
theorem own_h217 : decode prog_49_method_10_code 63 = .ok (.invokespecial 66, 3) := by decide +kernel
theorem own_h218 : decode prog_49_method_10_code 66 = .ok (.areturn, 1) := by decide +kernel
set_option maxRecDepth 65536 in
set_option maxHeartbeats 40000000 in
theorem rmW (l : Launch) (Z : State) (a0 : Array Value) (hw : ∀ d ∈ tables_1, d.before a0 Z = true) (ws : List Jvm.Cond) (b r : Addr) (d y : UInt64) (n : Int32) (h0 : Heap) (n0 : Nat) (Z0 : n0 ≤ h0.size) (Eb : Exa Z h0 b "com/example/ample_gap/amplegap/simulation/Road") (Er : Exa Z h0 r "com/example/ample_gap/amplegap/simulation/OnRamp") (B1 : Fld Z h0 b "com/example/ample_gap/amplegap/simulation/Road" "length" "D" (.double d)) (B2 : Fld Z h0 b "com/example/ample_gap/amplegap/simulation/Road" "lanes" "I" (.int n)) (B3 : Fld Z h0 b "com/example/ample_gap/amplegap/simulation/Road" "ring" "Z" (.int (0 : Int32))) (Re : Fld Z h0 r "com/example/ample_gap/amplegap/simulation/OnRamp" "end" "D" (.double y)) (q3 : ¬ 0 < cmpValue (FP.dcmp y d) .l) :
    MetFree l (⟨"com/example/ample_gap/amplegap/simulation/Road", "withOnRamp", "(Lcom/example/ample_gap/amplegap/simulation/OnRamp;)Lcom/example/ample_gap/amplegap/simulation/Road;"⟩ : MethodName) (head1 (Jvm.Cond.code (⟨"com/example/ample_gap/amplegap/simulation/Road", "withOnRamp", "(Lcom/example/ample_gap/amplegap/simulation/OnRamp;)Lcom/example/ample_gap/amplegap/simulation/Road;"⟩ : MethodName) prog_49_method_10_code 2 (some (.object "com/example/ample_gap/amplegap/simulation/Road")) :: ws) ({ frames := 2, cells := 3, slots := 24, locals := 27 } : Room)) (fun ar_ U => ar_ = #[(.ref b), (.ref r)] ∧ Z.Warmed39 U.vm ∧ U.heap = h0) (fun _ _ _ _ _ => True) (fun _ U o U' => ∃ v L, o = .returned v ∧ QW Z r n h0 n0 v U'.heap L ∧ ReturnedEndW U o U' L ({ frames := 2, cells := 3, slots := 24, locals := 27 } : Room).cells ({ frames := 2, cells := 3, slots := 24, locals := 27 } : Room).slots) := by
  refine MetFree.of_bodySF (plainFor_of_name own_h106) hisR ?_
  intro p e s m args below meth c s₁ Bd hml0 hP hK
  obtain ⟨rfl, hZ, hh⟩ := hP
  have hx := Bd.exec
  have hby := Bd.bytes
  have hml : c.maxLocals = 2 := hml0
  have hown : s.vm.findClass "com/example/ample_gap/amplegap/simulation/Road" = some m.cls := findClass_of_methodNamed Bd.named
  have hnm := (name_of_methodNamed Bd.named Bd.method).1
  have X0 : Stand p l e ({ frames := 2, cells := 3, slots := 24, locals := 27 } : Room) (s.setVm s.vm) m #[(.ref b), (.ref r)] below meth c s₁ [] 0 0 := Stand.of_body Bd
  have hS0 : s.Since s.vm 0 := (State.WarmedH.refl s).since 0
  have hk0 : 0 ≤ h0.size := Nat.zero_le _
  have hZ : Z.Warmed39 (s.setVm s.vm).vm := hZ
  have hown : (s.setVm s.vm).vm.findClass "com/example/ample_gap/amplegap/simulation/Road" = some m.cls := hown
  have e0 : s₁.heap = h0 := by rw [← hh, Bd.state]; rfl
  have N0 := Fr.nil n0
  have k0 : own_K p e below (s₁.setTop (mkF m 0 #[.val (.ref b), .val (.ref r)] [])) (s₁.setTop (entryFrame m #[(.ref b), (.ref r)] 2)) := fun t k => castTop (by clear k; first | (simp [entryFrame, mkF, argsToLocals, Value.category, maxLocals]; done) | rfl) k
  have K0 : Keep h0 h0 [] := Keep.refl _ _
  have k1 : own_K p e below (s₁.setTop (mkF m 1 #[.val (.ref b), .val (.ref r)] [(.ref r)])) (s₁.setTop (entryFrame m #[(.ref b), (.ref r)] 2)) := fun t hh => k0 t (by
    refine XS.aloadN X0.here hx rfl (hb hby own_h186) rfl rfl ?_
    show Steps p.tables e below (s₁.setTop (mkF m 1 #[.val (.ref b), .val (.ref r)] [(.ref r)])) _
    exact hh)
  obtain ⟨a534, T535, h536, k_537, X538, e539, E540, hS541, hk542, hZ543, hown544, st545⟩ := ldcS X0 hx hZ hown (wT hw 85 rfl) (own_strAtoms hw) e0 hS0 hk0 (g := (mkF m 1 #[.val (.ref b), .val (.ref r)] [(.ref r)])) rfl (hb hby own_h187) (n := 16) (by decide) (by decide) (by decide) (by decide)
  have F546 := Exa.ext (h' := h536) E540 Eb
  have F547 := Exa.ext (h' := h536) E540 Er
  have F548 := Fld.ext (h' := h536) E540 B1
  have F549 := Fld.ext (h' := h536) E540 B2
  have F550 := Fld.ext (h' := h536) E540 B3
  have F551 := Fld.ext (h' := h536) E540 Re
  have Z552 : n0 ≤ h536.size := Nat.le_trans Z0 E540.1
  have P553 : Keep h0 h536 [] := K0.ext E540
  have k2 : own_K p e below (T535.setTop (mkF m 3 #[.val (.ref b), .val (.ref r)] [(.ref a534), (.ref r)])) (s₁.setTop (entryFrame m #[(.ref b), (.ref r)] 2)) := fun t hh => k1 t (st545 t hh)
  obtain ⟨_, _, ⟨T554, L555, k_556, n_557⟩, -, X558, ⟨Lc559, hQ560, l_561, y_562, z_563⟩, st564⟩ := Jvm.LawKit.callS X538 hx (y := (⟨"java/util/Objects", "requireNonNull", "(Ljava/lang/Object;Ljava/lang/String;)Ljava/lang/Object;"⟩ : MethodName)) hown544 (mvT hZ543 (wT hw 86 rfl)) (mvT hZ543 (wT hw 87 rfl)) (mvT hZ543 (wT hw 88 rfl)) (mvT hZ543 (wT hw 89 rfl)) (by decide) (backOf (W := 0) (rmNn l Z a0 hw [] r a534 h536 n0 Z552) hZ543 (wT hw 89 rfl) (wT hw 88 rfl) (by decide) (by decide)) (g := (mkF m 3 #[.val (.ref b), .val (.ref r)] [(.ref a534), (.ref r)])) rfl (by rw [hml]; rfl) (argsL := [(.ref r), (.ref a534)]) (rest := []) (lenOf own_h23 rfl) rfl (by show 2 * 0 + _ ≤ _; exact Nat.le_of_eq rfl) (hb hby own_h188) (fun _ _ => ⟨rfl, e539, (by decide : 2 + 0 ≤ _), (by decide : 20 + 0 ≤ _)⟩)
  dsimp only [Pt.U, Pt.locs, Pt.cells, Pt.slots] at X558 l_561 y_562 z_563 st564 hQ560
  subst l_561 y_562 z_563
  obtain ⟨rfl, N565, e566⟩ := hQ560
  have N567 := Fr.app N0 N565
  have k3 : own_K p e below (T554.setTop (mkF m 6 #[.val (.ref b), .val (.ref r)] [(.ref r)])) (s₁.setTop (entryFrame m #[(.ref b), (.ref r)] 2)) := fun t hh => k2 t (st564 t hh)
  have k4 : own_K p e below (T554.setTop (mkF m 8 #[.val (.ref b), .val (.ref r)] [(.ref b)])) (s₁.setTop (entryFrame m #[(.ref b), (.ref r)] 2)) := fun t hh => k3 t (by
    refine XS.pop X558.here hx rfl (hb hby own_h189) rfl rfl ?_
    show Steps p.tables e below (T554.setTop (mkF m 7 #[.val (.ref b), .val (.ref r)] [])) _
    refine XS.aloadN X558.here hx rfl (hb hby own_h190) rfl rfl ?_
    show Steps p.tables e below (T554.setTop (mkF m 8 #[.val (.ref b), .val (.ref r)] [(.ref b)])) _
    exact hh)
  obtain ⟨T568, X569, e570, st571⟩ := getF X558 hx hZ543 hown544 (host := "") (Or.inl (wT hw 41 rfl)) Via.refl e566 F550 (g := (mkF m 8 #[.val (.ref b), .val (.ref r)] [(.ref b)])) rfl rfl (hb hby own_h191)
  have k5 : own_K p e below (T568.setTop (mkF m 11 #[.val (.ref b), .val (.ref r)] [(.int (0 : Int32))])) (s₁.setTop (entryFrame m #[(.ref b), (.ref r)] 2)) := fun t hh => k4 t (st571 t hh)
  have k6 : own_K p e below (T568.setTop (mkF m 25 #[.val (.ref b), .val (.ref r)] [(.ref r)])) (s₁.setTop (entryFrame m #[(.ref b), (.ref r)] 2)) := fun t hh => k5 t (by
    refine XS.ifYes X569.here hx rfl (pc0 := 11) (pc' := 24) rfl (hb hby own_h192) rfl (by decide) (by decide) (by decide) ?_
    show Steps p.tables e below (T568.setTop (mkF m 24 #[.val (.ref b), .val (.ref r)] [])) _
    refine XS.aloadN X569.here hx rfl (hb hby own_h198) rfl rfl ?_
    show Steps p.tables e below (T568.setTop (mkF m 25 #[.val (.ref b), .val (.ref r)] [(.ref r)])) _
    exact hh)
  obtain ⟨cq583, kq584, qa585, qb586, qc587⟩ := isOf hZ543 e570 F547
  obtain ⟨_, _, ⟨T572, L573, k_574, n_575⟩, -, X576, ⟨Lc577, hQ578, l_579, y_580, z_581⟩, st582⟩ := X569.virtualBack hx (y := (⟨"com/example/ample_gap/amplegap/simulation/OnRamp", "end", "()D"⟩ : MethodName)) (z := (⟨"com/example/ample_gap/amplegap/simulation/OnRamp", "end", "()D"⟩ : MethodName)) hown544 (mvT hZ543 (wT hw 90 rfl)) (mvT hZ543 (wT hw 91 rfl)) (notFace_of_selects (args := #[]) (mvT hZ543 (wT hw 93 rfl))) (mvT hZ543 (wT hw 93 rfl)) (mvT hZ543 (wT hw 92 rfl)) (by decide) (backOf (W := 0) (rmEn l Z a0 hw [] r y h536 n0 Z552 F551) hZ543 (wT hw 94 rfl) (wT hw 65 rfl) (by decide) (by decide)) qa585 qc587 (g := (mkF m 25 #[.val (.ref b), .val (.ref r)] [(.ref r)])) rfl (by rw [hml]; rfl) (Steps.refl _) (argsL := []) (rest := []) (lenOf own_h24 rfl) rfl (by show 2 * 0 + _ ≤ _; exact Nat.le_of_eq rfl) (hb hby own_h199) (fun _ _ => ⟨rfl, e570, (by decide : 2 + 0 ≤ _), (by decide : 20 + 0 ≤ _)⟩)
  dsimp only [Pt.U, Pt.locs, Pt.cells, Pt.slots] at X576 l_579 y_580 z_581 st582 hQ578
  subst l_579 y_580 z_581
  obtain ⟨rfl, N588, e589⟩ := hQ578
  have N590 := Fr.app N567 N588
  have k7 : own_K p e below (T572.setTop (mkF m 28 #[.val (.ref b), .val (.ref r)] [(.double y)])) (s₁.setTop (entryFrame m #[(.ref b), (.ref r)] 2)) := fun t hh => k6 t (st582.trans hh)
  have k8 : own_K p e below (T572.setTop (mkF m 29 #[.val (.ref b), .val (.ref r)] [(.ref b), (.double y)])) (s₁.setTop (entryFrame m #[(.ref b), (.ref r)] 2)) := fun t hh => k7 t (by
    refine XS.aloadN X576.here hx rfl (hb hby own_h200) rfl rfl ?_
    show Steps p.tables e below (T572.setTop (mkF m 29 #[.val (.ref b), .val (.ref r)] [(.ref b), (.double y)])) _
    exact hh)
  obtain ⟨T591, X592, e593, st594⟩ := getF X576 hx hZ543 hown544 (host := "") (Or.inl (wT hw 37 rfl)) Via.refl e589 F548 (g := (mkF m 29 #[.val (.ref b), .val (.ref r)] [(.ref b), (.double y)])) rfl rfl (hb hby own_h201)
  have k9 : own_K p e below (T591.setTop (mkF m 32 #[.val (.ref b), .val (.ref r)] [(.double d), (.double y)])) (s₁.setTop (entryFrame m #[(.ref b), (.ref r)] 2)) := fun t hh => k8 t (st594 t hh)
  have k10 : own_K p e below (T591.setTop (mkF m 57 #[.val (.ref b), .val (.ref r)] [])) (s₁.setTop (entryFrame m #[(.ref b), (.ref r)] 2)) := fun t hh => k9 t (by
    refine XS.dcmpS X592.here hx rfl (hb hby own_h202) rfl rfl ?_
    show Steps p.tables e below (T591.setTop (mkF m 33 #[.val (.ref b), .val (.ref r)] [(.int (cmpValue (FP.dcmp y d) .l))])) _
    refine XS.ifYes X592.here hx rfl (pc0 := 33) (pc' := 57) rfl (hb hby own_h203) rfl (own_ifT_le q3) (by decide) (by decide) ?_
    show Steps p.tables e below (T591.setTop (mkF m 57 #[.val (.ref b), .val (.ref r)] [])) _
    exact hh)
  obtain ⟨T595, h596, X597, e598, E599, A600, D601, U603, st602⟩ := newO X592 hx hZ543 hown544 (wT hw 58 rfl) (wT hw 2 rfl) (wT hw 3 rfl) e593 (g := (mkF m 57 #[.val (.ref b), .val (.ref r)] [])) rfl (hb hby own_h213) (by decide) (by decide)
  obtain ⟨a604, g605⟩ : ∃ z, z = h536.size := ⟨_, rfl⟩
  rw [← g605] at A600 D601 U603 st602
  have H0606 : h0.size ≤ a604 := Nat.le_trans P553.1 (Nat.le_of_eq g605.symm)
  have G607 : n0 ≤ a604 := Nat.le_trans Z552 (Nat.le_of_eq g605.symm)
  have hk608 := Nat.le_trans hk542 (show h536.size ≤ h596.size from E599.1)
  have F609 := Exa.ext (h' := h596) E599 F546
  have F610 := Exa.ext (h' := h596) E599 F547
  have F611 := Fld.ext (h' := h596) E599 F548
  have F612 := Fld.ext (h' := h596) E599 F549
  have F613 := Fld.ext (h' := h596) E599 F550
  have F614 := Fld.ext (h' := h596) E599 F551
  have Z615 : n0 ≤ h596.size := Nat.le_trans Z552 E599.1
  have P616 : Keep h0 h596 [] := P553.ext E599
  have F617 : Fld Z h596 a604 "com/example/ample_gap/amplegap/simulation/Road" "length" "D" (.double (0 : UInt64)) := D601 (Or.inr (wT hw 38 rfl)) (ty := .double) (by decide)
  have F618 : Fld Z h596 a604 "com/example/ample_gap/amplegap/simulation/Road" "lanes" "I" (.int (0 : Int32)) := D601 (Or.inr (wT hw 40 rfl)) (ty := .int) (by decide)
  have F619 : Fld Z h596 a604 "com/example/ample_gap/amplegap/simulation/Road" "ring" "Z" (.int (0 : Int32)) := D601 (Or.inr (wT hw 42 rfl)) (ty := .boolean) (by decide)
  have F620 : Fld Z h596 a604 "com/example/ample_gap/amplegap/simulation/Road" "onRamp" "Lcom/example/ample_gap/amplegap/simulation/OnRamp;" .null := D601 (Or.inr (wT hw 44 rfl)) (ty := .object "com/example/ample_gap/amplegap/simulation/OnRamp") (by decide)
  have k11 : own_K p e below (T595.setTop (mkF m 60 #[.val (.ref b), .val (.ref r)] [(.ref a604)])) (s₁.setTop (entryFrame m #[(.ref b), (.ref r)] 2)) := fun t hh => k10 t (st602 t hh)
  have k12 : own_K p e below (T595.setTop (mkF m 63 #[.val (.ref b), .val (.ref r)] [(.ref r), (.ref b), (.ref a604), (.ref a604)])) (s₁.setTop (entryFrame m #[(.ref b), (.ref r)] 2)) := fun t hh => k11 t (by
    refine XS.dup X597.here hx rfl (hb hby own_h214) rfl rfl ?_
    show Steps p.tables e below (T595.setTop (mkF m 61 #[.val (.ref b), .val (.ref r)] [(.ref a604), (.ref a604)])) _
    refine XS.aloadN X597.here hx rfl (hb hby own_h215) rfl rfl ?_
    show Steps p.tables e below (T595.setTop (mkF m 62 #[.val (.ref b), .val (.ref r)] [(.ref b), (.ref a604), (.ref a604)])) _
    refine XS.aloadN X597.here hx rfl (hb hby own_h216) rfl rfl ?_
    show Steps p.tables e below (T595.setTop (mkF m 63 #[.val (.ref b), .val (.ref r)] [(.ref r), (.ref b), (.ref a604), (.ref a604)])) _
    exact hh)
  have ne632 : b ≠ a604 := by rw [g605]; exact Nat.ne_of_lt F546.lt
  obtain ⟨_, _, ⟨T621, L622, k_623, n_624⟩, -, X625, ⟨Lc626, hQ627, l_628, y_629, z_630⟩, st631⟩ := X597.specialBack hx (y := (⟨"com/example/ample_gap/amplegap/simulation/Road", "<init>", "(Lcom/example/ample_gap/amplegap/simulation/Road;Lcom/example/ample_gap/amplegap/simulation/OnRamp;)V"⟩ : MethodName)) rfl hown544 (mvT hZ543 (wT hw 95 rfl)) (mvT hZ543 (wT hw 96 rfl)) (mvT hZ543 (wT hw 97 rfl)) (by decide) (backOf (W := 1) (rmB l Z a0 hw [] a604 b r d n (0 : Int32) h596 n0 Z615 A600 G607 F617 F618 F619 F620 ne632 F611 F612 F613 rfl rfl) hZ543 (wT hw 97 rfl) (wT hw 3 rfl) (by decide) (by decide)) (g := (mkF m 63 #[.val (.ref b), .val (.ref r)] [(.ref r), (.ref b), (.ref a604), (.ref a604)])) rfl (by rw [hml]; rfl) (Steps.refl _) (a := a604) (argsL := [(.ref b), (.ref r)]) (rest := [(.ref a604)]) (lenOf own_h25 rfl) rfl (by show 2 * 0 + _ ≤ _; exact Nat.le_of_eq rfl) (hb hby own_h217) (fun _ _ => ⟨rfl, e598, (by decide : 3 + 0 ≤ _), (by decide : 24 + 0 ≤ _)⟩)
  dsimp only [Pt.U, Pt.locs, Pt.cells, Pt.slots] at X625 l_628 y_629 z_630 st631 hQ627
  subst l_628 y_629 z_630
  obtain ⟨rfl, N633, K634, E635, F636, F637⟩ := hQ627
  have N638 := Fr.app N590 N633
  have F639 := F609.keep K634
  have F640 := F610.keep K634
  have F641 := F611.keep K634 (ninS ne632 nin0)
  have F642 := F612.keep K634 (ninS ne632 nin0)
  have F643 := F613.keep K634 (ninS ne632 nin0)
  have ne645 : r ≠ a604 := by rw [g605]; exact Nat.ne_of_lt F547.lt
  have F644 := F614.keep K634 (ninS ne645 nin0)
  have F646 := A600.keep K634
  have Z647 : n0 ≤ T621.heap.size := Nat.le_trans Z615 K634.1
  have hk648 := Nat.le_trans hk608 (show h596.size ≤ T621.heap.size from K634.1)
  have P649 : Keep h0 T621.heap [] := P616.trans K634 (allS (P := fun x => x ∈ [] ∨ h0.size ≤ x) (Or.inr H0606) all0)
  have e650 : T621.heap = T621.heap := rfl
  have k13 : own_K p e below (T621.setTop (mkF m 66 #[.val (.ref b), .val (.ref r)] [(.ref a604)])) (s₁.setTop (entryFrame m #[(.ref b), (.ref r)] 2)) := fun t hh => k12 t (st631.trans hh)
  obtain ⟨fs, hr, hrun, hended, hEnd⟩ := X625.leaveW hS541 (by rw [e650]; exact hk648) (v := some (.ref a604)) (fun h => by rw [Bd.returns] at h; cases h)
  refine ⟨_, _, k13 _ (retOut X625 hx (t := .object "com/example/ample_gap/amplegap/simulation/Road") Bd.returns rfl (Or.inr (Or.inr (Or.inr (Or.inr ⟨rfl, rfl, rfl⟩)))) (hb hby own_h218) hr), hrun, hended, _, _, rfl, ?_, hEnd.1, hEnd.2.1, hEnd.2.2.1, hEnd.2.2.2.mono (by decide) (by decide)⟩
  show QW Z r n h0 n0 _ T621.heap _
  rw [e650]
  exact ⟨_, rfl, N638, P649, G607, E635, F636, F637⟩
theorem own_h219 : decode prog_49_method_12_code 0 = .ok (.aload_n 0, 1) := by decide +kernel
theorem own_h220 : decode prog_49_method_12_code 1 = .ok (.getfield 43, 3) := by decide +kernel
theorem own_h221 : decode prog_49_method_12_code 4 = .ok (.ifnonnull 7, 3) := by decide +kernel
theorem own_h222 : decode prog_49_method_12_code 7 = .ok (.iconst 1, 1) := by decide +kernel
theorem own_h223 : decode prog_49_method_12_code 8 = .ok (.goto 4, 3) := by decide +kernel
theorem own_h224 : decode prog_49_method_12_code 11 = .ok (.iconst 0, 1) := by decide +kernel
theorem own_h225 : decode prog_49_method_12_code 12 = .ok (.ireturn, 1) := by decide +kernel
set_option maxRecDepth 65536 in
set_option maxHeartbeats 40000000 in
theorem rmL1 (l : Launch) (Z : State) (a0 : Array Value) (hw : ∀ d ∈ tables_1, d.before a0 Z = true) (ws : List Jvm.Cond) (a : Addr) (h0 : Heap) (n0 : Nat) (Z0 : n0 ≤ h0.size) (F1 : Fld Z h0 a "com/example/ample_gap/amplegap/simulation/Road" "onRamp" "Lcom/example/ample_gap/amplegap/simulation/OnRamp;" .null) :
    MetFree l (⟨"com/example/ample_gap/amplegap/simulation/Road", "lowestLane", "()I"⟩ : MethodName) (head1 (Jvm.Cond.code (⟨"com/example/ample_gap/amplegap/simulation/Road", "lowestLane", "()I"⟩ : MethodName) prog_49_method_12_code 1 (some .int) :: ws) ({ frames := 0, cells := 0, slots := 0, locals := 0 } : Room)) (fun ar_ U => ar_ = #[(.ref a)] ∧ Z.Warmed39 U.vm ∧ U.heap = h0) (fun _ _ _ _ _ => True) (fun _ U o U' => ∃ v L, o = .returned v ∧ QI (1 : Int32) h0 n0 v U'.heap L ∧ FrameEnd U o U' L ({ frames := 0, cells := 0, slots := 0, locals := 0 } : Room).cells ({ frames := 0, cells := 0, slots := 0, locals := 0 } : Room).slots) := by
  refine MetFree.of_bodySF (plainFor_of_name own_h106) hisR ?_
  intro p e s m args below meth c s₁ Bd hml0 hP hK
  obtain ⟨rfl, hZ, hh⟩ := hP
  have hx := Bd.exec
  have hby := Bd.bytes
  have hml : c.maxLocals = 1 := hml0
  have hown : s.vm.findClass "com/example/ample_gap/amplegap/simulation/Road" = some m.cls := findClass_of_methodNamed Bd.named
  have hnm := (name_of_methodNamed Bd.named Bd.method).1
  have X0 : Stand p l e ({ frames := 0, cells := 0, slots := 0, locals := 0 } : Room) s m #[(.ref a)] below meth c s₁ [] 0 0 := Stand.of_body Bd
  have e0 : s₁.heap = h0 := by rw [← hh, Bd.state]; rfl
  have N0 := Fr.nil n0
  have k0 : own_K p e below (s₁.setTop (mkF m 0 #[.val (.ref a)] [])) (s₁.setTop (entryFrame m #[(.ref a)] 1)) := fun t k => castTop (by clear k; first | (simp [entryFrame, mkF, argsToLocals, Value.category, maxLocals]; done) | rfl) k
  have k1 : own_K p e below (s₁.setTop (mkF m 1 #[.val (.ref a)] [(.ref a)])) (s₁.setTop (entryFrame m #[(.ref a)] 1)) := fun t hh => k0 t (by
    refine XS.aloadN X0.here hx rfl (hb hby own_h219) rfl rfl ?_
    show Steps p.tables e below (s₁.setTop (mkF m 1 #[.val (.ref a)] [(.ref a)])) _
    exact hh)
  obtain ⟨T651, X652, e653, st654⟩ := getF X0 hx hZ hown (host := "") (Or.inl (wT hw 43 rfl)) Via.refl e0 F1 (g := (mkF m 1 #[.val (.ref a)] [(.ref a)])) rfl rfl (hb hby own_h220)
  have k2 : own_K p e below (T651.setTop (mkF m 4 #[.val (.ref a)] [.null])) (s₁.setTop (entryFrame m #[(.ref a)] 1)) := fun t hh => k1 t (st654 t hh)
  have k3 : own_K p e below (T651.setTop (mkF m 12 #[.val (.ref a)] [(.int (1 : Int32))])) (s₁.setTop (entryFrame m #[(.ref a)] 1)) := fun t hh => k2 t (by
    refine XS.ifnonnullNo X652.here hx rfl (hb hby own_h221) rfl ?_
    show Steps p.tables e below (T651.setTop (mkF m 7 #[.val (.ref a)] [])) _
    refine XS.iconst X652.here hx rfl (hb hby own_h222) ?_
    show Steps p.tables e below (T651.setTop (mkF m 8 #[.val (.ref a)] [(.int (1 : Int32))])) _
    refine XS.goto X652.here hx rfl (pc0 := 8) (pc' := 12) rfl (hb hby own_h223) (by decide) (by decide) ?_
    show Steps p.tables e below (T651.setTop (mkF m 12 #[.val (.ref a)] [(.int (1 : Int32))])) _
    exact hh)
  obtain ⟨fs, hr, hrun, hended, hW, hsame⟩ := X652.leave (v := some (.int (1 : Int32))) (fun h => by rw [Bd.returns] at h; cases h)
  refine ⟨_, _, k3 _ (retOut X652 hx (t := .int) Bd.returns rfl (Or.inl ⟨rfl, (by simp), _, rfl⟩) (hb hby own_h225) hr), hrun, hended, _, _, rfl, ?_, ⟨_, rfl⟩, hW, hsame.mono (by decide) (by decide)⟩
  show QI (1 : Int32) h0 n0 _ T651.heap _
  rw [e653]
  exact ⟨rfl, N0, rfl⟩
set_option maxRecDepth 65536 in
set_option maxHeartbeats 40000000 in
theorem rmL0 (l : Launch) (Z : State) (a0 : Array Value) (hw : ∀ d ∈ tables_1, d.before a0 Z = true) (ws : List Jvm.Cond) (a r : Addr) (h0 : Heap) (n0 : Nat) (Z0 : n0 ≤ h0.size) (F1 : Fld Z h0 a "com/example/ample_gap/amplegap/simulation/Road" "onRamp" "Lcom/example/ample_gap/amplegap/simulation/OnRamp;" (.ref r)) :
    MetFree l (⟨"com/example/ample_gap/amplegap/simulation/Road", "lowestLane", "()I"⟩ : MethodName) (head1 (Jvm.Cond.code (⟨"com/example/ample_gap/amplegap/simulation/Road", "lowestLane", "()I"⟩ : MethodName) prog_49_method_12_code 1 (some .int) :: ws) ({ frames := 0, cells := 0, slots := 0, locals := 0 } : Room)) (fun ar_ U => ar_ = #[(.ref a)] ∧ Z.Warmed39 U.vm ∧ U.heap = h0) (fun _ _ _ _ _ => True) (fun _ U o U' => ∃ v L, o = .returned v ∧ QI (0 : Int32) h0 n0 v U'.heap L ∧ FrameEnd U o U' L ({ frames := 0, cells := 0, slots := 0, locals := 0 } : Room).cells ({ frames := 0, cells := 0, slots := 0, locals := 0 } : Room).slots) := by
  refine MetFree.of_bodySF (plainFor_of_name own_h106) hisR ?_
  intro p e s m args below meth c s₁ Bd hml0 hP hK
  obtain ⟨rfl, hZ, hh⟩ := hP
  have hx := Bd.exec
  have hby := Bd.bytes
  have hml : c.maxLocals = 1 := hml0
  have hown : s.vm.findClass "com/example/ample_gap/amplegap/simulation/Road" = some m.cls := findClass_of_methodNamed Bd.named
  have hnm := (name_of_methodNamed Bd.named Bd.method).1
  have X0 : Stand p l e ({ frames := 0, cells := 0, slots := 0, locals := 0 } : Room) s m #[(.ref a)] below meth c s₁ [] 0 0 := Stand.of_body Bd
  have e0 : s₁.heap = h0 := by rw [← hh, Bd.state]; rfl
  have N0 := Fr.nil n0
  have k0 : own_K p e below (s₁.setTop (mkF m 0 #[.val (.ref a)] [])) (s₁.setTop (entryFrame m #[(.ref a)] 1)) := fun t k => castTop (by clear k; first | (simp [entryFrame, mkF, argsToLocals, Value.category, maxLocals]; done) | rfl) k
  have k1 : own_K p e below (s₁.setTop (mkF m 1 #[.val (.ref a)] [(.ref a)])) (s₁.setTop (entryFrame m #[(.ref a)] 1)) := fun t hh => k0 t (by
    refine XS.aloadN X0.here hx rfl (hb hby own_h219) rfl rfl ?_
    show Steps p.tables e below (s₁.setTop (mkF m 1 #[.val (.ref a)] [(.ref a)])) _
    exact hh)
  obtain ⟨T655, X656, e657, st658⟩ := getF X0 hx hZ hown (host := "") (Or.inl (wT hw 43 rfl)) Via.refl e0 F1 (g := (mkF m 1 #[.val (.ref a)] [(.ref a)])) rfl rfl (hb hby own_h220)
  have k2 : own_K p e below (T655.setTop (mkF m 4 #[.val (.ref a)] [(.ref r)])) (s₁.setTop (entryFrame m #[(.ref a)] 1)) := fun t hh => k1 t (st658 t hh)
  have k3 : own_K p e below (T655.setTop (mkF m 12 #[.val (.ref a)] [(.int (0 : Int32))])) (s₁.setTop (entryFrame m #[(.ref a)] 1)) := fun t hh => k2 t (by
    refine XS.ifnonnullYes X656.here hx rfl (pc0 := 4) (pc' := 11) rfl (hb hby own_h221) rfl (by decide) (by decide) ?_
    show Steps p.tables e below (T655.setTop (mkF m 11 #[.val (.ref a)] [])) _
    refine XS.iconst X656.here hx rfl (hb hby own_h224) ?_
    show Steps p.tables e below (T655.setTop (mkF m 12 #[.val (.ref a)] [(.int (0 : Int32))])) _
    exact hh)
  obtain ⟨fs, hr, hrun, hended, hW, hsame⟩ := X656.leave (v := some (.int (0 : Int32))) (fun h => by rw [Bd.returns] at h; cases h)
  refine ⟨_, _, k3 _ (retOut X656 hx (t := .int) Bd.returns rfl (Or.inl ⟨rfl, (by simp), _, rfl⟩) (hb hby own_h225) hr), hrun, hended, _, _, rfl, ?_, ⟨_, rfl⟩, hW, hsame.mono (by decide) (by decide)⟩
  show QI (0 : Int32) h0 n0 _ T655.heap _
  rw [e657]
  exact ⟨rfl, N0, rfl⟩
theorem own_h226 : decode prog_49_method_13_code 0 = .ok (.iload_n 1, 1) := by decide +kernel
theorem own_h227 : decode prog_49_method_13_code 1 = .ok (.aload_n 0, 1) := by decide +kernel
theorem own_h228 : decode prog_49_method_13_code 2 = .ok (.invokevirtual 75, 3) := by decide +kernel
theorem own_h229 : decode prog_49_method_13_code 5 = .ok (.if_icmp .lt 15, 3) := by decide +kernel
theorem own_h230 : decode prog_49_method_13_code 8 = .ok (.iload_n 1, 1) := by decide +kernel
theorem own_h231 : decode prog_49_method_13_code 9 = .ok (.aload_n 0, 1) := by decide +kernel
theorem own_h232 : decode prog_49_method_13_code 10 = .ok (.getfield 35, 3) := by decide +kernel
theorem own_h233 : decode prog_49_method_13_code 13 = .ok (.if_icmp .gt 7, 3) := by decide +kernel
theorem own_h234 : decode prog_49_method_13_code 16 = .ok (.iconst 1, 1) := by decide +kernel
theorem own_h235 : decode prog_49_method_13_code 17 = .ok (.goto 4, 3) := by decide +kernel
theorem own_h236 : decode prog_49_method_13_code 20 = .ok (.iconst 0, 1) := by decide +kernel
theorem own_h237 : decode prog_49_method_13_code 21 = .ok (.ireturn, 1) := by decide +kernel
set_option maxRecDepth 65536 in
set_option maxHeartbeats 40000000 in
theorem rmH1 (l : Launch) (Z : State) (a0 : Array Value) (hw : ∀ d ∈ tables_1, d.before a0 Z = true) (ws : List Jvm.Cond) (a : Addr) (lane n : Int32) (h0 : Heap) (n0 : Nat) (Z0 : n0 ≤ h0.size) (E1 : Exa Z h0 a "com/example/ample_gap/amplegap/simulation/Road") (F1 : Fld Z h0 a "com/example/ample_gap/amplegap/simulation/Road" "onRamp" "Lcom/example/ample_gap/amplegap/simulation/OnRamp;" .null) (F2 : Fld Z h0 a "com/example/ample_gap/amplegap/simulation/Road" "lanes" "I" (.int n)) :
    MetFree l (⟨"com/example/ample_gap/amplegap/simulation/Road", "hasLane", "(I)Z"⟩ : MethodName) (head1 (Jvm.Cond.code (⟨"com/example/ample_gap/amplegap/simulation/Road", "hasLane", "(I)Z"⟩ : MethodName) prog_49_method_13_code 2 (some .boolean) :: ws) ({ frames := 1, cells := 0, slots := 0, locals := 13 } : Room)) (fun ar_ U => ar_ = #[(.ref a), (.int lane)] ∧ Z.Warmed39 U.vm ∧ U.heap = h0) (fun _ _ _ _ _ => True) (fun _ U o U' => ∃ v L, o = .returned v ∧ QI (own_hl lane (1 : Int32) n) h0 n0 v U'.heap L ∧ FrameEnd U o U' L ({ frames := 1, cells := 0, slots := 0, locals := 13 } : Room).cells ({ frames := 1, cells := 0, slots := 0, locals := 13 } : Room).slots) := by
  refine MetFree.of_bodySF (plainFor_of_name own_h106) hisR ?_
  intro p e s m args below meth c s₁ Bd hml0 hP hK
  obtain ⟨rfl, hZ, hh⟩ := hP
  have hx := Bd.exec
  have hby := Bd.bytes
  have hml : c.maxLocals = 2 := hml0
  have hown : s.vm.findClass "com/example/ample_gap/amplegap/simulation/Road" = some m.cls := findClass_of_methodNamed Bd.named
  have hnm := (name_of_methodNamed Bd.named Bd.method).1
  have X0 : Stand p l e ({ frames := 1, cells := 0, slots := 0, locals := 13 } : Room) s m #[(.ref a), (.int lane)] below meth c s₁ [] 0 0 := Stand.of_body Bd
  have e0 : s₁.heap = h0 := by rw [← hh, Bd.state]; rfl
  have N0 := Fr.nil n0
  have k0 : own_K p e below (s₁.setTop (mkF m 0 #[.val (.ref a), .val (.int lane)] [])) (s₁.setTop (entryFrame m #[(.ref a), (.int lane)] 2)) := fun t k => castTop (by clear k; first | (simp [entryFrame, mkF, argsToLocals, Value.category, maxLocals]; done) | rfl) k
  have k1 : own_K p e below (s₁.setTop (mkF m 2 #[.val (.ref a), .val (.int lane)] [(.ref a), (.int lane)])) (s₁.setTop (entryFrame m #[(.ref a), (.int lane)] 2)) := fun t hh => k0 t (by
    refine XS.iloadN X0.here hx rfl (hb hby own_h226) rfl ?_
    show Steps p.tables e below (s₁.setTop (mkF m 1 #[.val (.ref a), .val (.int lane)] [(.int lane)])) _
    refine XS.aloadN X0.here hx rfl (hb hby own_h227) rfl rfl ?_
    show Steps p.tables e below (s₁.setTop (mkF m 2 #[.val (.ref a), .val (.int lane)] [(.ref a), (.int lane)])) _
    exact hh)
  obtain ⟨cq670, kq671, qa672, qb673, qc674⟩ := isOf hZ e0 E1
  obtain ⟨_, _, ⟨T659, L660, k_661, n_662⟩, -, X663, ⟨Lc664, hQ665, l_666, y_667, z_668⟩, st669⟩ := X0.virtualBack hx (y := (⟨"com/example/ample_gap/amplegap/simulation/Road", "lowestLane", "()I"⟩ : MethodName)) (z := (⟨"com/example/ample_gap/amplegap/simulation/Road", "lowestLane", "()I"⟩ : MethodName)) hown (mvT hZ (wT hw 50 rfl)) (mvT hZ (wT hw 51 rfl)) (notFace_of_selects (args := #[]) (mvT hZ (wT hw 53 rfl))) (mvT hZ (wT hw 53 rfl)) (mvT hZ (wT hw 52 rfl)) (by decide) (backOf (W := 1) (rmL1 l Z a0 hw [] a h0 n0 Z0 F1) hZ (wT hw 54 rfl) (wT hw 3 rfl) (by decide) (by decide)) qa672 qc674 (g := (mkF m 2 #[.val (.ref a), .val (.int lane)] [(.ref a), (.int lane)])) rfl (by rw [hml]; rfl) (Steps.refl _) (argsL := []) (rest := [(.int lane)]) (lenOf own_h18 rfl) rfl (by show 2 * 0 + _ ≤ _; exact Nat.le_of_eq rfl) (hb hby own_h228) (fun _ _ => ⟨rfl, e0, (by decide : 0 + 0 ≤ _), (by decide : 0 + 0 ≤ _)⟩)
  dsimp only [Pt.U, Pt.locs, Pt.cells, Pt.slots] at X663 l_666 y_667 z_668 st669 hQ665
  subst l_666 y_667 z_668
  obtain ⟨rfl, N675, e676⟩ := hQ665
  have N677 := Fr.app N0 N675
  have k2 : own_K p e below (T659.setTop (mkF m 5 #[.val (.ref a), .val (.int lane)] [(.int (1 : Int32)), (.int lane)])) (s₁.setTop (entryFrame m #[(.ref a), (.int lane)] 2)) := fun t hh => k1 t (st669.trans hh)
  by_cases c5 : lane < (1 : Int32)
  ·
    have k3 : own_K p e below (T659.setTop (mkF m 21 #[.val (.ref a), .val (.int lane)] [(.int (0 : Int32))])) (s₁.setTop (entryFrame m #[(.ref a), (.int lane)] 2)) := fun t hh => k2 t (by
      refine XS.icmpYes X663.here hx rfl (pc0 := 5) (pc' := 20) rfl (hb hby own_h229) rfl (own_icT_lt c5) (by decide) (by decide) ?_
      show Steps p.tables e below (T659.setTop (mkF m 20 #[.val (.ref a), .val (.int lane)] [])) _
      refine XS.iconst X663.here hx rfl (hb hby own_h236) ?_
      show Steps p.tables e below (T659.setTop (mkF m 21 #[.val (.ref a), .val (.int lane)] [(.int (0 : Int32))])) _
      exact hh)
    obtain ⟨fs, hr, hrun, hended, hW, hsame⟩ := X663.leave (v := some (.int (0 : Int32))) (fun h => by rw [Bd.returns] at h; cases h)
    refine ⟨_, _, k3 _ (retN X663 hx (t := .boolean) Bd.returns (by simp) (hb hby own_h237) hr), hrun, hended, _, _, rfl, ?_, ⟨_, rfl⟩, hW, hsame.mono (by decide) (by decide)⟩
    show QI (own_hl lane (1 : Int32) n) h0 n0 _ T659.heap _
    rw [e676]
    exact ⟨by simp only [own_hl, c5, if_true, if_false], N677, rfl⟩
  ·
    have k4 : own_K p e below (T659.setTop (mkF m 10 #[.val (.ref a), .val (.int lane)] [(.ref a), (.int lane)])) (s₁.setTop (entryFrame m #[(.ref a), (.int lane)] 2)) := fun t hh => k2 t (by
      refine XS.icmpNo X663.here hx rfl (hb hby own_h229) rfl (own_icF_lt c5) ?_
      show Steps p.tables e below (T659.setTop (mkF m 8 #[.val (.ref a), .val (.int lane)] [])) _
      refine XS.iloadN X663.here hx rfl (hb hby own_h230) rfl ?_
      show Steps p.tables e below (T659.setTop (mkF m 9 #[.val (.ref a), .val (.int lane)] [(.int lane)])) _
      refine XS.aloadN X663.here hx rfl (hb hby own_h231) rfl rfl ?_
      show Steps p.tables e below (T659.setTop (mkF m 10 #[.val (.ref a), .val (.int lane)] [(.ref a), (.int lane)])) _
      exact hh)
    obtain ⟨T678, X679, e680, st681⟩ := getF X663 hx hZ hown (host := "") (Or.inl (wT hw 39 rfl)) Via.refl e676 F2 (g := (mkF m 10 #[.val (.ref a), .val (.int lane)] [(.ref a), (.int lane)])) rfl rfl (hb hby own_h232)
    have k5 : own_K p e below (T678.setTop (mkF m 13 #[.val (.ref a), .val (.int lane)] [(.int n), (.int lane)])) (s₁.setTop (entryFrame m #[(.ref a), (.int lane)] 2)) := fun t hh => k4 t (st681 t hh)
    by_cases c13 : n < lane
    ·
      have k6 : own_K p e below (T678.setTop (mkF m 21 #[.val (.ref a), .val (.int lane)] [(.int (0 : Int32))])) (s₁.setTop (entryFrame m #[(.ref a), (.int lane)] 2)) := fun t hh => k5 t (by
        refine XS.icmpYes X679.here hx rfl (pc0 := 13) (pc' := 20) rfl (hb hby own_h233) rfl (own_icT_gt c13) (by decide) (by decide) ?_
        show Steps p.tables e below (T678.setTop (mkF m 20 #[.val (.ref a), .val (.int lane)] [])) _
        refine XS.iconst X679.here hx rfl (hb hby own_h236) ?_
        show Steps p.tables e below (T678.setTop (mkF m 21 #[.val (.ref a), .val (.int lane)] [(.int (0 : Int32))])) _
        exact hh)
      obtain ⟨fs, hr, hrun, hended, hW, hsame⟩ := X679.leave (v := some (.int (0 : Int32))) (fun h => by rw [Bd.returns] at h; cases h)
      refine ⟨_, _, k6 _ (retN X679 hx (t := .boolean) Bd.returns (by simp) (hb hby own_h237) hr), hrun, hended, _, _, rfl, ?_, ⟨_, rfl⟩, hW, hsame.mono (by decide) (by decide)⟩
      show QI (own_hl lane (1 : Int32) n) h0 n0 _ T678.heap _
      rw [e680]
      exact ⟨by simp only [own_hl, c5, c13, if_true, if_false], N677, rfl⟩
    ·
      have k7 : own_K p e below (T678.setTop (mkF m 21 #[.val (.ref a), .val (.int lane)] [(.int (1 : Int32))])) (s₁.setTop (entryFrame m #[(.ref a), (.int lane)] 2)) := fun t hh => k5 t (by
        refine XS.icmpNo X679.here hx rfl (hb hby own_h233) rfl (own_icF_gt c13) ?_
        show Steps p.tables e below (T678.setTop (mkF m 16 #[.val (.ref a), .val (.int lane)] [])) _
        refine XS.iconst X679.here hx rfl (hb hby own_h234) ?_
        show Steps p.tables e below (T678.setTop (mkF m 17 #[.val (.ref a), .val (.int lane)] [(.int (1 : Int32))])) _
        refine XS.goto X679.here hx rfl (pc0 := 17) (pc' := 21) rfl (hb hby own_h235) (by decide) (by decide) ?_
        show Steps p.tables e below (T678.setTop (mkF m 21 #[.val (.ref a), .val (.int lane)] [(.int (1 : Int32))])) _
        exact hh)
      obtain ⟨fs, hr, hrun, hended, hW, hsame⟩ := X679.leave (v := some (.int (1 : Int32))) (fun h => by rw [Bd.returns] at h; cases h)
      refine ⟨_, _, k7 _ (retN X679 hx (t := .boolean) Bd.returns (by simp) (hb hby own_h237) hr), hrun, hended, _, _, rfl, ?_, ⟨_, rfl⟩, hW, hsame.mono (by decide) (by decide)⟩
      show QI (own_hl lane (1 : Int32) n) h0 n0 _ T678.heap _
      rw [e680]
      exact ⟨by simp only [own_hl, c5, c13, if_true, if_false], N677, rfl⟩
set_option maxRecDepth 65536 in
set_option maxHeartbeats 40000000 in
theorem rmH0 (l : Launch) (Z : State) (a0 : Array Value) (hw : ∀ d ∈ tables_1, d.before a0 Z = true) (ws : List Jvm.Cond) (a : Addr) (r : Addr) (lane n : Int32) (h0 : Heap) (n0 : Nat) (Z0 : n0 ≤ h0.size) (E1 : Exa Z h0 a "com/example/ample_gap/amplegap/simulation/Road") (F1 : Fld Z h0 a "com/example/ample_gap/amplegap/simulation/Road" "onRamp" "Lcom/example/ample_gap/amplegap/simulation/OnRamp;" (.ref r)) (F2 : Fld Z h0 a "com/example/ample_gap/amplegap/simulation/Road" "lanes" "I" (.int n)) :
    MetFree l (⟨"com/example/ample_gap/amplegap/simulation/Road", "hasLane", "(I)Z"⟩ : MethodName) (head1 (Jvm.Cond.code (⟨"com/example/ample_gap/amplegap/simulation/Road", "hasLane", "(I)Z"⟩ : MethodName) prog_49_method_13_code 2 (some .boolean) :: ws) ({ frames := 1, cells := 0, slots := 0, locals := 13 } : Room)) (fun ar_ U => ar_ = #[(.ref a), (.int lane)] ∧ Z.Warmed39 U.vm ∧ U.heap = h0) (fun _ _ _ _ _ => True) (fun _ U o U' => ∃ v L, o = .returned v ∧ QI (own_hl lane (0 : Int32) n) h0 n0 v U'.heap L ∧ FrameEnd U o U' L ({ frames := 1, cells := 0, slots := 0, locals := 13 } : Room).cells ({ frames := 1, cells := 0, slots := 0, locals := 13 } : Room).slots) := by
  refine MetFree.of_bodySF (plainFor_of_name own_h106) hisR ?_
  intro p e s m args below meth c s₁ Bd hml0 hP hK
  obtain ⟨rfl, hZ, hh⟩ := hP
  have hx := Bd.exec
  have hby := Bd.bytes
  have hml : c.maxLocals = 2 := hml0
  have hown : s.vm.findClass "com/example/ample_gap/amplegap/simulation/Road" = some m.cls := findClass_of_methodNamed Bd.named
  have hnm := (name_of_methodNamed Bd.named Bd.method).1
  have X0 : Stand p l e ({ frames := 1, cells := 0, slots := 0, locals := 13 } : Room) s m #[(.ref a), (.int lane)] below meth c s₁ [] 0 0 := Stand.of_body Bd
  have e0 : s₁.heap = h0 := by rw [← hh, Bd.state]; rfl
  have N0 := Fr.nil n0
  have k0 : own_K p e below (s₁.setTop (mkF m 0 #[.val (.ref a), .val (.int lane)] [])) (s₁.setTop (entryFrame m #[(.ref a), (.int lane)] 2)) := fun t k => castTop (by clear k; first | (simp [entryFrame, mkF, argsToLocals, Value.category, maxLocals]; done) | rfl) k
  have k1 : own_K p e below (s₁.setTop (mkF m 2 #[.val (.ref a), .val (.int lane)] [(.ref a), (.int lane)])) (s₁.setTop (entryFrame m #[(.ref a), (.int lane)] 2)) := fun t hh => k0 t (by
    refine XS.iloadN X0.here hx rfl (hb hby own_h226) rfl ?_
    show Steps p.tables e below (s₁.setTop (mkF m 1 #[.val (.ref a), .val (.int lane)] [(.int lane)])) _
    refine XS.aloadN X0.here hx rfl (hb hby own_h227) rfl rfl ?_
    show Steps p.tables e below (s₁.setTop (mkF m 2 #[.val (.ref a), .val (.int lane)] [(.ref a), (.int lane)])) _
    exact hh)
  obtain ⟨cq693, kq694, qa695, qb696, qc697⟩ := isOf hZ e0 E1
  obtain ⟨_, _, ⟨T682, L683, k_684, n_685⟩, -, X686, ⟨Lc687, hQ688, l_689, y_690, z_691⟩, st692⟩ := X0.virtualBack hx (y := (⟨"com/example/ample_gap/amplegap/simulation/Road", "lowestLane", "()I"⟩ : MethodName)) (z := (⟨"com/example/ample_gap/amplegap/simulation/Road", "lowestLane", "()I"⟩ : MethodName)) hown (mvT hZ (wT hw 50 rfl)) (mvT hZ (wT hw 51 rfl)) (notFace_of_selects (args := #[]) (mvT hZ (wT hw 53 rfl))) (mvT hZ (wT hw 53 rfl)) (mvT hZ (wT hw 52 rfl)) (by decide) (backOf (W := 1) (rmL0 l Z a0 hw [] a r h0 n0 Z0 F1) hZ (wT hw 54 rfl) (wT hw 3 rfl) (by decide) (by decide)) qa695 qc697 (g := (mkF m 2 #[.val (.ref a), .val (.int lane)] [(.ref a), (.int lane)])) rfl (by rw [hml]; rfl) (Steps.refl _) (argsL := []) (rest := [(.int lane)]) (lenOf own_h18 rfl) rfl (by show 2 * 0 + _ ≤ _; exact Nat.le_of_eq rfl) (hb hby own_h228) (fun _ _ => ⟨rfl, e0, (by decide : 0 + 0 ≤ _), (by decide : 0 + 0 ≤ _)⟩)
  dsimp only [Pt.U, Pt.locs, Pt.cells, Pt.slots] at X686 l_689 y_690 z_691 st692 hQ688
  subst l_689 y_690 z_691
  obtain ⟨rfl, N698, e699⟩ := hQ688
  have N700 := Fr.app N0 N698
  have k2 : own_K p e below (T682.setTop (mkF m 5 #[.val (.ref a), .val (.int lane)] [(.int (0 : Int32)), (.int lane)])) (s₁.setTop (entryFrame m #[(.ref a), (.int lane)] 2)) := fun t hh => k1 t (st692.trans hh)
  by_cases c5 : lane < (0 : Int32)
  ·
    have k3 : own_K p e below (T682.setTop (mkF m 21 #[.val (.ref a), .val (.int lane)] [(.int (0 : Int32))])) (s₁.setTop (entryFrame m #[(.ref a), (.int lane)] 2)) := fun t hh => k2 t (by
      refine XS.icmpYes X686.here hx rfl (pc0 := 5) (pc' := 20) rfl (hb hby own_h229) rfl (own_icT_lt c5) (by decide) (by decide) ?_
      show Steps p.tables e below (T682.setTop (mkF m 20 #[.val (.ref a), .val (.int lane)] [])) _
      refine XS.iconst X686.here hx rfl (hb hby own_h236) ?_
      show Steps p.tables e below (T682.setTop (mkF m 21 #[.val (.ref a), .val (.int lane)] [(.int (0 : Int32))])) _
      exact hh)
    obtain ⟨fs, hr, hrun, hended, hW, hsame⟩ := X686.leave (v := some (.int (0 : Int32))) (fun h => by rw [Bd.returns] at h; cases h)
    refine ⟨_, _, k3 _ (retN X686 hx (t := .boolean) Bd.returns (by simp) (hb hby own_h237) hr), hrun, hended, _, _, rfl, ?_, ⟨_, rfl⟩, hW, hsame.mono (by decide) (by decide)⟩
    show QI (own_hl lane (0 : Int32) n) h0 n0 _ T682.heap _
    rw [e699]
    exact ⟨by simp only [own_hl, c5, if_true, if_false], N700, rfl⟩
  ·
    have k4 : own_K p e below (T682.setTop (mkF m 10 #[.val (.ref a), .val (.int lane)] [(.ref a), (.int lane)])) (s₁.setTop (entryFrame m #[(.ref a), (.int lane)] 2)) := fun t hh => k2 t (by
      refine XS.icmpNo X686.here hx rfl (hb hby own_h229) rfl (own_icF_lt c5) ?_
      show Steps p.tables e below (T682.setTop (mkF m 8 #[.val (.ref a), .val (.int lane)] [])) _
      refine XS.iloadN X686.here hx rfl (hb hby own_h230) rfl ?_
      show Steps p.tables e below (T682.setTop (mkF m 9 #[.val (.ref a), .val (.int lane)] [(.int lane)])) _
      refine XS.aloadN X686.here hx rfl (hb hby own_h231) rfl rfl ?_
      show Steps p.tables e below (T682.setTop (mkF m 10 #[.val (.ref a), .val (.int lane)] [(.ref a), (.int lane)])) _
      exact hh)
    obtain ⟨T701, X702, e703, st704⟩ := getF X686 hx hZ hown (host := "") (Or.inl (wT hw 39 rfl)) Via.refl e699 F2 (g := (mkF m 10 #[.val (.ref a), .val (.int lane)] [(.ref a), (.int lane)])) rfl rfl (hb hby own_h232)
    have k5 : own_K p e below (T701.setTop (mkF m 13 #[.val (.ref a), .val (.int lane)] [(.int n), (.int lane)])) (s₁.setTop (entryFrame m #[(.ref a), (.int lane)] 2)) := fun t hh => k4 t (st704 t hh)
    by_cases c13 : n < lane
    ·
      have k6 : own_K p e below (T701.setTop (mkF m 21 #[.val (.ref a), .val (.int lane)] [(.int (0 : Int32))])) (s₁.setTop (entryFrame m #[(.ref a), (.int lane)] 2)) := fun t hh => k5 t (by
        refine XS.icmpYes X702.here hx rfl (pc0 := 13) (pc' := 20) rfl (hb hby own_h233) rfl (own_icT_gt c13) (by decide) (by decide) ?_
        show Steps p.tables e below (T701.setTop (mkF m 20 #[.val (.ref a), .val (.int lane)] [])) _
        refine XS.iconst X702.here hx rfl (hb hby own_h236) ?_
        show Steps p.tables e below (T701.setTop (mkF m 21 #[.val (.ref a), .val (.int lane)] [(.int (0 : Int32))])) _
        exact hh)
      obtain ⟨fs, hr, hrun, hended, hW, hsame⟩ := X702.leave (v := some (.int (0 : Int32))) (fun h => by rw [Bd.returns] at h; cases h)
      refine ⟨_, _, k6 _ (retN X702 hx (t := .boolean) Bd.returns (by simp) (hb hby own_h237) hr), hrun, hended, _, _, rfl, ?_, ⟨_, rfl⟩, hW, hsame.mono (by decide) (by decide)⟩
      show QI (own_hl lane (0 : Int32) n) h0 n0 _ T701.heap _
      rw [e703]
      exact ⟨by simp only [own_hl, c5, c13, if_true, if_false], N700, rfl⟩
    ·
      have k7 : own_K p e below (T701.setTop (mkF m 21 #[.val (.ref a), .val (.int lane)] [(.int (1 : Int32))])) (s₁.setTop (entryFrame m #[(.ref a), (.int lane)] 2)) := fun t hh => k5 t (by
        refine XS.icmpNo X702.here hx rfl (hb hby own_h233) rfl (own_icF_gt c13) ?_
        show Steps p.tables e below (T701.setTop (mkF m 16 #[.val (.ref a), .val (.int lane)] [])) _
        refine XS.iconst X702.here hx rfl (hb hby own_h234) ?_
        show Steps p.tables e below (T701.setTop (mkF m 17 #[.val (.ref a), .val (.int lane)] [(.int (1 : Int32))])) _
        refine XS.goto X702.here hx rfl (pc0 := 17) (pc' := 21) rfl (hb hby own_h235) (by decide) (by decide) ?_
        show Steps p.tables e below (T701.setTop (mkF m 21 #[.val (.ref a), .val (.int lane)] [(.int (1 : Int32))])) _
        exact hh)
      obtain ⟨fs, hr, hrun, hended, hW, hsame⟩ := X702.leave (v := some (.int (1 : Int32))) (fun h => by rw [Bd.returns] at h; cases h)
      refine ⟨_, _, k7 _ (retN X702 hx (t := .boolean) Bd.returns (by simp) (hb hby own_h237) hr), hrun, hended, _, _, rfl, ?_, ⟨_, rfl⟩, hW, hsame.mono (by decide) (by decide)⟩
      show QI (own_hl lane (0 : Int32) n) h0 n0 _ T701.heap _
      rw [e703]
      exact ⟨by simp only [own_hl, c5, c13, if_true, if_false], N700, rfl⟩
def QL (h0 : Heap) (n0 : Nat) (v : Option Value) (h : Heap) (L : List Loc) : Prop := v = some (.int 1) ∧ Fr n0 L
theorem own_h238 : plainName "com/example/ample_gap/amplegap/simulation/RoadHasLanePinLaw" = true := by first | (simp [plainName, overriddenIn]; done) | decide +kernel
set_option maxRecDepth 65536 in
set_option maxHeartbeats 40000000 in
theorem rmL (l : Launch) (Z : State) (a0 : Array Value) (hw : ∀ d ∈ tables_1, d.before a0 Z = true) (ws : List Jvm.Cond) (lr la nr fl : Int32) (h0 : Heap) (n0 : Nat) (Z0 : n0 ≤ h0.size) :
    MetFree l x (head1 (Jvm.Cond.code x code maxLocals ret :: ws) room_1) (fun ar_ U => ar_ = #[(.int lr), (.int la), (.int nr), (.int fl)] ∧ Z.Warmed39 U.vm ∧ U.heap = h0) (fun _ _ _ _ _ => True) (fun _ U o U' => ∃ v L, o = .returned v ∧ QL h0 n0 v U'.heap L ∧ ReturnedEndW U o U' L 24 5248) := by
  refine MetFree.of_bodySF (plainFor_of_name own_h238) hisR ?_
  intro p e s m args below meth c s₁ Bd hml0 hP hK
  obtain ⟨rfl, hZ, hh⟩ := hP
  have hx := Bd.exec
  have hby := Bd.bytes
  have hml : c.maxLocals = 13 := hml0
  have hown : s.vm.findClass "com/example/ample_gap/amplegap/simulation/RoadHasLanePinLaw" = some m.cls := findClass_of_methodNamed Bd.named
  have hnm := (name_of_methodNamed Bd.named Bd.method).1
  have X0 : Stand p l e room_1 (s.setVm s.vm) m #[(.int lr), (.int la), (.int nr), (.int fl)] below meth c s₁ [] 0 0 := Stand.of_body Bd
  have hS0 : s.Since s.vm 0 := (State.WarmedH.refl s).since 0
  have hk0 : 0 ≤ h0.size := Nat.zero_le _
  have hZ : Z.Warmed39 (s.setVm s.vm).vm := hZ
  have hown : (s.setVm s.vm).vm.findClass "com/example/ample_gap/amplegap/simulation/RoadHasLanePinLaw" = some m.cls := hown
  have e0 : s₁.heap = h0 := by rw [← hh, Bd.state]; rfl
  have N0 := Fr.nil n0
  have k0 : own_K p e below (s₁.setTop (mkF m 0 #[.val (.int lr), .val (.int la), .val (.int nr), .val (.int fl), .unset, .unset, .unset, .unset, .unset, .unset, .unset, .unset, .unset] [])) (s₁.setTop (entryFrame m #[(.int lr), (.int la), (.int nr), (.int fl)] maxLocals)) := fun t k => castTop (by clear k; first | (simp [entryFrame, mkF, argsToLocals, Value.category, maxLocals]; done) | rfl) k
  have k1 : own_K p e below (s₁.setTop (mkF m 7 #[.val (.int lr), .val (.int la), .val (.int nr), .val (.int fl), .unset, .unset, .unset, .unset, .unset, .unset, .unset, .unset, .unset] [(.double (FP.i2d ((lr &&& (65535 : Int32)) + (1 : Int32))))])) (s₁.setTop (entryFrame m #[(.int lr), (.int la), (.int nr), (.int fl)] maxLocals)) := fun t hh => k0 t (by
    refine XS.iloadN X0.here hx rfl (hb hby at_0) rfl ?_
    show Steps p.tables e below (s₁.setTop (mkF m 1 #[.val (.int lr), .val (.int la), .val (.int nr), .val (.int fl), .unset, .unset, .unset, .unset, .unset, .unset, .unset, .unset, .unset] [(.int lr)])) _
    refine X0.ldcInt hx hown (mvT hZ (wT hw 0 rfl)) (g := (mkF m 1 #[.val (.int lr), .val (.int la), .val (.int nr), .val (.int fl), .unset, .unset, .unset, .unset, .unset, .unset, .unset, .unset, .unset] [(.int lr)])) rfl (hb hby at_1) _ ?_
    show Steps p.tables e below (s₁.setTop (mkF m 3 #[.val (.int lr), .val (.int la), .val (.int nr), .val (.int fl), .unset, .unset, .unset, .unset, .unset, .unset, .unset, .unset, .unset] [(.int (65535 : Int32)), (.int lr)])) _
    refine XS.iand X0.here hx rfl (hb hby at_3) rfl ?_
    show Steps p.tables e below (s₁.setTop (mkF m 4 #[.val (.int lr), .val (.int la), .val (.int nr), .val (.int fl), .unset, .unset, .unset, .unset, .unset, .unset, .unset, .unset, .unset] [(.int (lr &&& (65535 : Int32)))])) _
    refine XS.iconst X0.here hx rfl (hb hby at_4) ?_
    show Steps p.tables e below (s₁.setTop (mkF m 5 #[.val (.int lr), .val (.int la), .val (.int nr), .val (.int fl), .unset, .unset, .unset, .unset, .unset, .unset, .unset, .unset, .unset] [(.int (1 : Int32)), (.int (lr &&& (65535 : Int32)))])) _
    refine XS.iadd X0.here hx rfl (hb hby at_5) rfl ?_
    show Steps p.tables e below (s₁.setTop (mkF m 6 #[.val (.int lr), .val (.int la), .val (.int nr), .val (.int fl), .unset, .unset, .unset, .unset, .unset, .unset, .unset, .unset, .unset] [(.int ((lr &&& (65535 : Int32)) + (1 : Int32)))])) _
    refine XS.i2dS X0.here hx rfl (hb hby at_6) rfl rfl ?_
    show Steps p.tables e below (s₁.setTop (mkF m 7 #[.val (.int lr), .val (.int la), .val (.int nr), .val (.int fl), .unset, .unset, .unset, .unset, .unset, .unset, .unset, .unset, .unset] [(.double (FP.i2d ((lr &&& (65535 : Int32)) + (1 : Int32))))])) _
    exact hh)
  have k2 : own_K p e below (s₁.setTop (mkF m 7 #[.val (.int lr), .val (.int la), .val (.int nr), .val (.int fl), .unset, .unset, .unset, .unset, .unset, .unset, .unset, .unset, .unset] [(.double (FP.i2d (own_len lr)))])) (s₁.setTop (entryFrame m #[(.int lr), (.int la), (.int nr), (.int fl)] maxLocals)) := k1
  have k3 : own_K p e below (s₁.setTop (mkF m 17 #[.val (.int lr), .val (.int la), .val (.int nr), .val (.int fl), .val (.double (FP.i2d (own_len lr))), .second, .val (.int ((nr &&& (15 : Int32)) + (1 : Int32))), .unset, .unset, .unset, .unset, .unset, .unset] [])) (s₁.setTop (entryFrame m #[(.int lr), (.int la), (.int nr), (.int fl)] maxLocals)) := fun t hh => k2 t (by
    refine XS.dstore X0.here hx rfl (hb hby at_7) rfl (l' := #[.val (.int lr), .val (.int la), .val (.int nr), .val (.int fl), .val (.double (FP.i2d (own_len lr))), .second, .unset, .unset, .unset, .unset, .unset, .unset, .unset]) rfl ?_
    show Steps p.tables e below (s₁.setTop (mkF m 9 #[.val (.int lr), .val (.int la), .val (.int nr), .val (.int fl), .val (.double (FP.i2d (own_len lr))), .second, .unset, .unset, .unset, .unset, .unset, .unset, .unset] [])) _
    refine XS.iloadN X0.here hx rfl (hb hby at_9) rfl ?_
    show Steps p.tables e below (s₁.setTop (mkF m 10 #[.val (.int lr), .val (.int la), .val (.int nr), .val (.int fl), .val (.double (FP.i2d (own_len lr))), .second, .unset, .unset, .unset, .unset, .unset, .unset, .unset] [(.int nr)])) _
    refine XS.bipush X0.here hx rfl (hb hby at_10) ?_
    show Steps p.tables e below (s₁.setTop (mkF m 12 #[.val (.int lr), .val (.int la), .val (.int nr), .val (.int fl), .val (.double (FP.i2d (own_len lr))), .second, .unset, .unset, .unset, .unset, .unset, .unset, .unset] [(.int (15 : Int32)), (.int nr)])) _
    refine XS.iand X0.here hx rfl (hb hby at_12) rfl ?_
    show Steps p.tables e below (s₁.setTop (mkF m 13 #[.val (.int lr), .val (.int la), .val (.int nr), .val (.int fl), .val (.double (FP.i2d (own_len lr))), .second, .unset, .unset, .unset, .unset, .unset, .unset, .unset] [(.int (nr &&& (15 : Int32)))])) _
    refine XS.iconst X0.here hx rfl (hb hby at_13) ?_
    show Steps p.tables e below (s₁.setTop (mkF m 14 #[.val (.int lr), .val (.int la), .val (.int nr), .val (.int fl), .val (.double (FP.i2d (own_len lr))), .second, .unset, .unset, .unset, .unset, .unset, .unset, .unset] [(.int (1 : Int32)), (.int (nr &&& (15 : Int32)))])) _
    refine XS.iadd X0.here hx rfl (hb hby at_14) rfl ?_
    show Steps p.tables e below (s₁.setTop (mkF m 15 #[.val (.int lr), .val (.int la), .val (.int nr), .val (.int fl), .val (.double (FP.i2d (own_len lr))), .second, .unset, .unset, .unset, .unset, .unset, .unset, .unset] [(.int ((nr &&& (15 : Int32)) + (1 : Int32)))])) _
    refine XS.istore X0.here hx rfl (hb hby at_15) rfl (l' := #[.val (.int lr), .val (.int la), .val (.int nr), .val (.int fl), .val (.double (FP.i2d (own_len lr))), .second, .val (.int ((nr &&& (15 : Int32)) + (1 : Int32))), .unset, .unset, .unset, .unset, .unset, .unset]) rfl ?_
    show Steps p.tables e below (s₁.setTop (mkF m 17 #[.val (.int lr), .val (.int la), .val (.int nr), .val (.int fl), .val (.double (FP.i2d (own_len lr))), .second, .val (.int ((nr &&& (15 : Int32)) + (1 : Int32))), .unset, .unset, .unset, .unset, .unset, .unset] [])) _
    exact hh)
  have k4 : own_K p e below (s₁.setTop (mkF m 17 #[.val (.int lr), .val (.int la), .val (.int nr), .val (.int fl), .val (.double (FP.i2d (own_len lr))), .second, .val (.int (own_n nr)), .unset, .unset, .unset, .unset, .unset, .unset] [])) (s₁.setTop (entryFrame m #[(.int lr), (.int la), (.int nr), (.int fl)] maxLocals)) := k3
  have k5 : own_K p e below (s₁.setTop (mkF m 22 #[.val (.int lr), .val (.int la), .val (.int nr), .val (.int fl), .val (.double (FP.i2d (own_len lr))), .second, .val (.int (own_n nr)), .val (.int (fl &&& (3 : Int32))), .unset, .unset, .unset, .unset, .unset] [])) (s₁.setTop (entryFrame m #[(.int lr), (.int la), (.int nr), (.int fl)] maxLocals)) := fun t hh => k4 t (by
    refine XS.iloadN X0.here hx rfl (hb hby at_17) rfl ?_
    show Steps p.tables e below (s₁.setTop (mkF m 18 #[.val (.int lr), .val (.int la), .val (.int nr), .val (.int fl), .val (.double (FP.i2d (own_len lr))), .second, .val (.int (own_n nr)), .unset, .unset, .unset, .unset, .unset, .unset] [(.int fl)])) _
    refine XS.iconst X0.here hx rfl (hb hby at_18) ?_
    show Steps p.tables e below (s₁.setTop (mkF m 19 #[.val (.int lr), .val (.int la), .val (.int nr), .val (.int fl), .val (.double (FP.i2d (own_len lr))), .second, .val (.int (own_n nr)), .unset, .unset, .unset, .unset, .unset, .unset] [(.int (3 : Int32)), (.int fl)])) _
    refine XS.iand X0.here hx rfl (hb hby at_19) rfl ?_
    show Steps p.tables e below (s₁.setTop (mkF m 20 #[.val (.int lr), .val (.int la), .val (.int nr), .val (.int fl), .val (.double (FP.i2d (own_len lr))), .second, .val (.int (own_n nr)), .unset, .unset, .unset, .unset, .unset, .unset] [(.int (fl &&& (3 : Int32)))])) _
    refine XS.istore X0.here hx rfl (hb hby at_20) rfl (l' := #[.val (.int lr), .val (.int la), .val (.int nr), .val (.int fl), .val (.double (FP.i2d (own_len lr))), .second, .val (.int (own_n nr)), .val (.int (fl &&& (3 : Int32))), .unset, .unset, .unset, .unset, .unset]) rfl ?_
    show Steps p.tables e below (s₁.setTop (mkF m 22 #[.val (.int lr), .val (.int la), .val (.int nr), .val (.int fl), .val (.double (FP.i2d (own_len lr))), .second, .val (.int (own_n nr)), .val (.int (fl &&& (3 : Int32))), .unset, .unset, .unset, .unset, .unset] [])) _
    exact hh)
  obtain ⟨rv, hM705, k6⟩ : ∃ rv : Int32, (rv = 0 ∨ (rv = 1 ∧ (fl &&& (3 : Int32)) < (2 : Int32))) ∧ own_K p e below (s₁.setTop (mkF m 41 #[.val (.int lr), .val (.int la), .val (.int nr), .val (.int fl), .val (.double (FP.i2d (own_len lr))), .second, .val (.int (own_n nr)), .val (.int (fl &&& (3 : Int32))), .val (.int rv), .unset, .unset, .unset, .unset] [])) (s₁.setTop (entryFrame m #[(.int lr), (.int la), (.int nr), (.int fl)] maxLocals)) := by
    have k7 : own_K p e below (s₁.setTop (mkF m 25 #[.val (.int lr), .val (.int la), .val (.int nr), .val (.int fl), .val (.double (FP.i2d (own_len lr))), .second, .val (.int (own_n nr)), .val (.int (fl &&& (3 : Int32))), .unset, .unset, .unset, .unset, .unset] [(.int (fl &&& (4 : Int32)))])) (s₁.setTop (entryFrame m #[(.int lr), (.int la), (.int nr), (.int fl)] maxLocals)) := fun t hh => k5 t (by
      refine XS.iloadN X0.here hx rfl (hb hby at_22) rfl ?_
      show Steps p.tables e below (s₁.setTop (mkF m 23 #[.val (.int lr), .val (.int la), .val (.int nr), .val (.int fl), .val (.double (FP.i2d (own_len lr))), .second, .val (.int (own_n nr)), .val (.int (fl &&& (3 : Int32))), .unset, .unset, .unset, .unset, .unset] [(.int fl)])) _
      refine XS.iconst X0.here hx rfl (hb hby at_23) ?_
      show Steps p.tables e below (s₁.setTop (mkF m 24 #[.val (.int lr), .val (.int la), .val (.int nr), .val (.int fl), .val (.double (FP.i2d (own_len lr))), .second, .val (.int (own_n nr)), .val (.int (fl &&& (3 : Int32))), .unset, .unset, .unset, .unset, .unset] [(.int (4 : Int32)), (.int fl)])) _
      refine XS.iand X0.here hx rfl (hb hby at_24) rfl ?_
      show Steps p.tables e below (s₁.setTop (mkF m 25 #[.val (.int lr), .val (.int la), .val (.int nr), .val (.int fl), .val (.double (FP.i2d (own_len lr))), .second, .val (.int (own_n nr)), .val (.int (fl &&& (3 : Int32))), .unset, .unset, .unset, .unset, .unset] [(.int (fl &&& (4 : Int32)))])) _
      exact hh)
    by_cases c25 : (fl &&& (4 : Int32)) = 0
    ·
      have k8 : own_K p e below (s₁.setTop (mkF m 41 #[.val (.int lr), .val (.int la), .val (.int nr), .val (.int fl), .val (.double (FP.i2d (own_len lr))), .second, .val (.int (own_n nr)), .val (.int (fl &&& (3 : Int32))), .val (.int (0 : Int32)), .unset, .unset, .unset, .unset] [])) (s₁.setTop (entryFrame m #[(.int lr), (.int la), (.int nr), (.int fl)] maxLocals)) := fun t hh => k7 t (by
        refine XS.ifYes X0.here hx rfl (pc0 := 25) (pc' := 38) rfl (hb hby at_25) rfl (own_ifT_eq c25) (by decide) (by decide) ?_
        show Steps p.tables e below (s₁.setTop (mkF m 38 #[.val (.int lr), .val (.int la), .val (.int nr), .val (.int fl), .val (.double (FP.i2d (own_len lr))), .second, .val (.int (own_n nr)), .val (.int (fl &&& (3 : Int32))), .unset, .unset, .unset, .unset, .unset] [])) _
        refine XS.iconst X0.here hx rfl (hb hby at_38) ?_
        show Steps p.tables e below (s₁.setTop (mkF m 39 #[.val (.int lr), .val (.int la), .val (.int nr), .val (.int fl), .val (.double (FP.i2d (own_len lr))), .second, .val (.int (own_n nr)), .val (.int (fl &&& (3 : Int32))), .unset, .unset, .unset, .unset, .unset] [(.int (0 : Int32))])) _
        refine XS.istore X0.here hx rfl (hb hby at_39) rfl (l' := #[.val (.int lr), .val (.int la), .val (.int nr), .val (.int fl), .val (.double (FP.i2d (own_len lr))), .second, .val (.int (own_n nr)), .val (.int (fl &&& (3 : Int32))), .val (.int (0 : Int32)), .unset, .unset, .unset, .unset]) rfl ?_
        show Steps p.tables e below (s₁.setTop (mkF m 41 #[.val (.int lr), .val (.int la), .val (.int nr), .val (.int fl), .val (.double (FP.i2d (own_len lr))), .second, .val (.int (own_n nr)), .val (.int (fl &&& (3 : Int32))), .val (.int (0 : Int32)), .unset, .unset, .unset, .unset] [])) _
        exact hh)
      exact ⟨(0 : Int32), Or.inl rfl, k8⟩
    ·
      have k9 : own_K p e below (s₁.setTop (mkF m 31 #[.val (.int lr), .val (.int la), .val (.int nr), .val (.int fl), .val (.double (FP.i2d (own_len lr))), .second, .val (.int (own_n nr)), .val (.int (fl &&& (3 : Int32))), .unset, .unset, .unset, .unset, .unset] [(.int (2 : Int32)), (.int (fl &&& (3 : Int32)))])) (s₁.setTop (entryFrame m #[(.int lr), (.int la), (.int nr), (.int fl)] maxLocals)) := fun t hh => k7 t (by
        refine XS.ifNo X0.here hx rfl (hb hby at_25) rfl (own_ifF_eq c25) ?_
        show Steps p.tables e below (s₁.setTop (mkF m 28 #[.val (.int lr), .val (.int la), .val (.int nr), .val (.int fl), .val (.double (FP.i2d (own_len lr))), .second, .val (.int (own_n nr)), .val (.int (fl &&& (3 : Int32))), .unset, .unset, .unset, .unset, .unset] [])) _
        refine XS.iload X0.here hx rfl (hb hby at_28) rfl ?_
        show Steps p.tables e below (s₁.setTop (mkF m 30 #[.val (.int lr), .val (.int la), .val (.int nr), .val (.int fl), .val (.double (FP.i2d (own_len lr))), .second, .val (.int (own_n nr)), .val (.int (fl &&& (3 : Int32))), .unset, .unset, .unset, .unset, .unset] [(.int (fl &&& (3 : Int32)))])) _
        refine XS.iconst X0.here hx rfl (hb hby at_30) ?_
        show Steps p.tables e below (s₁.setTop (mkF m 31 #[.val (.int lr), .val (.int la), .val (.int nr), .val (.int fl), .val (.double (FP.i2d (own_len lr))), .second, .val (.int (own_n nr)), .val (.int (fl &&& (3 : Int32))), .unset, .unset, .unset, .unset, .unset] [(.int (2 : Int32)), (.int (fl &&& (3 : Int32)))])) _
        exact hh)
      by_cases c31 : (fl &&& (3 : Int32)) < (2 : Int32)
      ·
        have k10 : own_K p e below (s₁.setTop (mkF m 41 #[.val (.int lr), .val (.int la), .val (.int nr), .val (.int fl), .val (.double (FP.i2d (own_len lr))), .second, .val (.int (own_n nr)), .val (.int (fl &&& (3 : Int32))), .val (.int (1 : Int32)), .unset, .unset, .unset, .unset] [])) (s₁.setTop (entryFrame m #[(.int lr), (.int la), (.int nr), (.int fl)] maxLocals)) := fun t hh => k9 t (by
          refine XS.icmpNo X0.here hx rfl (hb hby at_31) rfl (own_icF_ge c31) ?_
          show Steps p.tables e below (s₁.setTop (mkF m 34 #[.val (.int lr), .val (.int la), .val (.int nr), .val (.int fl), .val (.double (FP.i2d (own_len lr))), .second, .val (.int (own_n nr)), .val (.int (fl &&& (3 : Int32))), .unset, .unset, .unset, .unset, .unset] [])) _
          refine XS.iconst X0.here hx rfl (hb hby at_34) ?_
          show Steps p.tables e below (s₁.setTop (mkF m 35 #[.val (.int lr), .val (.int la), .val (.int nr), .val (.int fl), .val (.double (FP.i2d (own_len lr))), .second, .val (.int (own_n nr)), .val (.int (fl &&& (3 : Int32))), .unset, .unset, .unset, .unset, .unset] [(.int (1 : Int32))])) _
          refine XS.goto X0.here hx rfl (pc0 := 35) (pc' := 39) rfl (hb hby at_35) (by decide) (by decide) ?_
          show Steps p.tables e below (s₁.setTop (mkF m 39 #[.val (.int lr), .val (.int la), .val (.int nr), .val (.int fl), .val (.double (FP.i2d (own_len lr))), .second, .val (.int (own_n nr)), .val (.int (fl &&& (3 : Int32))), .unset, .unset, .unset, .unset, .unset] [(.int (1 : Int32))])) _
          refine XS.istore X0.here hx rfl (hb hby at_39) rfl (l' := #[.val (.int lr), .val (.int la), .val (.int nr), .val (.int fl), .val (.double (FP.i2d (own_len lr))), .second, .val (.int (own_n nr)), .val (.int (fl &&& (3 : Int32))), .val (.int (1 : Int32)), .unset, .unset, .unset, .unset]) rfl ?_
          show Steps p.tables e below (s₁.setTop (mkF m 41 #[.val (.int lr), .val (.int la), .val (.int nr), .val (.int fl), .val (.double (FP.i2d (own_len lr))), .second, .val (.int (own_n nr)), .val (.int (fl &&& (3 : Int32))), .val (.int (1 : Int32)), .unset, .unset, .unset, .unset] [])) _
          exact hh)
        exact ⟨(1 : Int32), Or.inr ⟨rfl, c31⟩, k10⟩
      ·
        have k11 : own_K p e below (s₁.setTop (mkF m 41 #[.val (.int lr), .val (.int la), .val (.int nr), .val (.int fl), .val (.double (FP.i2d (own_len lr))), .second, .val (.int (own_n nr)), .val (.int (fl &&& (3 : Int32))), .val (.int (0 : Int32)), .unset, .unset, .unset, .unset] [])) (s₁.setTop (entryFrame m #[(.int lr), (.int la), (.int nr), (.int fl)] maxLocals)) := fun t hh => k9 t (by
          refine XS.icmpYes X0.here hx rfl (pc0 := 31) (pc' := 38) rfl (hb hby at_31) rfl (own_icT_ge c31) (by decide) (by decide) ?_
          show Steps p.tables e below (s₁.setTop (mkF m 38 #[.val (.int lr), .val (.int la), .val (.int nr), .val (.int fl), .val (.double (FP.i2d (own_len lr))), .second, .val (.int (own_n nr)), .val (.int (fl &&& (3 : Int32))), .unset, .unset, .unset, .unset, .unset] [])) _
          refine XS.iconst X0.here hx rfl (hb hby at_38) ?_
          show Steps p.tables e below (s₁.setTop (mkF m 39 #[.val (.int lr), .val (.int la), .val (.int nr), .val (.int fl), .val (.double (FP.i2d (own_len lr))), .second, .val (.int (own_n nr)), .val (.int (fl &&& (3 : Int32))), .unset, .unset, .unset, .unset, .unset] [(.int (0 : Int32))])) _
          refine XS.istore X0.here hx rfl (hb hby at_39) rfl (l' := #[.val (.int lr), .val (.int la), .val (.int nr), .val (.int fl), .val (.double (FP.i2d (own_len lr))), .second, .val (.int (own_n nr)), .val (.int (fl &&& (3 : Int32))), .val (.int (0 : Int32)), .unset, .unset, .unset, .unset]) rfl ?_
          show Steps p.tables e below (s₁.setTop (mkF m 41 #[.val (.int lr), .val (.int la), .val (.int nr), .val (.int fl), .val (.double (FP.i2d (own_len lr))), .second, .val (.int (own_n nr)), .val (.int (fl &&& (3 : Int32))), .val (.int (0 : Int32)), .unset, .unset, .unset, .unset] [])) _
          exact hh)
        exact ⟨(0 : Int32), Or.inl rfl, k11⟩
  obtain ⟨lane, hM706, k12⟩ : ∃ lane : Int32, (True) ∧ own_K p e below (s₁.setTop (mkF m 58 #[.val (.int lr), .val (.int la), .val (.int nr), .val (.int fl), .val (.double (FP.i2d (own_len lr))), .second, .val (.int (own_n nr)), .val (.int (fl &&& (3 : Int32))), .val (.int rv), .val (.int lane), .unset, .unset, .unset] [])) (s₁.setTop (entryFrame m #[(.int lr), (.int la), (.int nr), (.int fl)] maxLocals)) := by
    have k13 : own_K p e below (s₁.setTop (mkF m 45 #[.val (.int lr), .val (.int la), .val (.int nr), .val (.int fl), .val (.double (FP.i2d (own_len lr))), .second, .val (.int (own_n nr)), .val (.int (fl &&& (3 : Int32))), .val (.int rv), .unset, .unset, .unset, .unset] [(.int (fl &&& (8 : Int32)))])) (s₁.setTop (entryFrame m #[(.int lr), (.int la), (.int nr), (.int fl)] maxLocals)) := fun t hh => k6 t (by
      refine XS.iloadN X0.here hx rfl (hb hby at_41) rfl ?_
      show Steps p.tables e below (s₁.setTop (mkF m 42 #[.val (.int lr), .val (.int la), .val (.int nr), .val (.int fl), .val (.double (FP.i2d (own_len lr))), .second, .val (.int (own_n nr)), .val (.int (fl &&& (3 : Int32))), .val (.int rv), .unset, .unset, .unset, .unset] [(.int fl)])) _
      refine XS.bipush X0.here hx rfl (hb hby at_42) ?_
      show Steps p.tables e below (s₁.setTop (mkF m 44 #[.val (.int lr), .val (.int la), .val (.int nr), .val (.int fl), .val (.double (FP.i2d (own_len lr))), .second, .val (.int (own_n nr)), .val (.int (fl &&& (3 : Int32))), .val (.int rv), .unset, .unset, .unset, .unset] [(.int (8 : Int32)), (.int fl)])) _
      refine XS.iand X0.here hx rfl (hb hby at_44) rfl ?_
      show Steps p.tables e below (s₁.setTop (mkF m 45 #[.val (.int lr), .val (.int la), .val (.int nr), .val (.int fl), .val (.double (FP.i2d (own_len lr))), .second, .val (.int (own_n nr)), .val (.int (fl &&& (3 : Int32))), .val (.int rv), .unset, .unset, .unset, .unset] [(.int (fl &&& (8 : Int32)))])) _
      exact hh)
    by_cases c45 : (fl &&& (8 : Int32)) = 0
    ·
      have k14 : own_K p e below (s₁.setTop (mkF m 58 #[.val (.int lr), .val (.int la), .val (.int nr), .val (.int fl), .val (.double (FP.i2d (own_len lr))), .second, .val (.int (own_n nr)), .val (.int (fl &&& (3 : Int32))), .val (.int rv), .val (.int (la % (20 : Int32))), .unset, .unset, .unset] [])) (s₁.setTop (entryFrame m #[(.int lr), (.int la), (.int nr), (.int fl)] maxLocals)) := fun t hh => k13 t (by
        refine XS.ifYes X0.here hx rfl (pc0 := 45) (pc' := 52) rfl (hb hby at_45) rfl (own_ifT_eq c45) (by decide) (by decide) ?_
        show Steps p.tables e below (s₁.setTop (mkF m 52 #[.val (.int lr), .val (.int la), .val (.int nr), .val (.int fl), .val (.double (FP.i2d (own_len lr))), .second, .val (.int (own_n nr)), .val (.int (fl &&& (3 : Int32))), .val (.int rv), .unset, .unset, .unset, .unset] [])) _
        refine XS.iloadN X0.here hx rfl (hb hby at_52) rfl ?_
        show Steps p.tables e below (s₁.setTop (mkF m 53 #[.val (.int lr), .val (.int la), .val (.int nr), .val (.int fl), .val (.double (FP.i2d (own_len lr))), .second, .val (.int (own_n nr)), .val (.int (fl &&& (3 : Int32))), .val (.int rv), .unset, .unset, .unset, .unset] [(.int la)])) _
        refine XS.bipush X0.here hx rfl (hb hby at_53) ?_
        show Steps p.tables e below (s₁.setTop (mkF m 55 #[.val (.int lr), .val (.int la), .val (.int nr), .val (.int fl), .val (.double (FP.i2d (own_len lr))), .second, .val (.int (own_n nr)), .val (.int (fl &&& (3 : Int32))), .val (.int rv), .unset, .unset, .unset, .unset] [(.int (20 : Int32)), (.int la)])) _
        refine iremM X0 hx (g := (mkF m 55 #[.val (.int lr), .val (.int la), .val (.int nr), .val (.int fl), .val (.double (FP.i2d (own_len lr))), .second, .val (.int (own_n nr)), .val (.int (fl &&& (3 : Int32))), .val (.int rv), .unset, .unset, .unset, .unset] [(.int (20 : Int32)), (.int la)])) rfl (hb hby at_55) rfl (by decide) ?_
        show Steps p.tables e below (s₁.setTop (mkF m 56 #[.val (.int lr), .val (.int la), .val (.int nr), .val (.int fl), .val (.double (FP.i2d (own_len lr))), .second, .val (.int (own_n nr)), .val (.int (fl &&& (3 : Int32))), .val (.int rv), .unset, .unset, .unset, .unset] [(.int (la % (20 : Int32)))])) _
        refine XS.istore X0.here hx rfl (hb hby at_56) rfl (l' := #[.val (.int lr), .val (.int la), .val (.int nr), .val (.int fl), .val (.double (FP.i2d (own_len lr))), .second, .val (.int (own_n nr)), .val (.int (fl &&& (3 : Int32))), .val (.int rv), .val (.int (la % (20 : Int32))), .unset, .unset, .unset]) rfl ?_
        show Steps p.tables e below (s₁.setTop (mkF m 58 #[.val (.int lr), .val (.int la), .val (.int nr), .val (.int fl), .val (.double (FP.i2d (own_len lr))), .second, .val (.int (own_n nr)), .val (.int (fl &&& (3 : Int32))), .val (.int rv), .val (.int (la % (20 : Int32))), .unset, .unset, .unset] [])) _
        exact hh)
      exact ⟨(la % (20 : Int32)), trivial, k14⟩
    ·
      have k15 : own_K p e below (s₁.setTop (mkF m 58 #[.val (.int lr), .val (.int la), .val (.int nr), .val (.int fl), .val (.double (FP.i2d (own_len lr))), .second, .val (.int (own_n nr)), .val (.int (fl &&& (3 : Int32))), .val (.int rv), .val (.int la), .unset, .unset, .unset] [])) (s₁.setTop (entryFrame m #[(.int lr), (.int la), (.int nr), (.int fl)] maxLocals)) := fun t hh => k13 t (by
        refine XS.ifNo X0.here hx rfl (hb hby at_45) rfl (own_ifF_eq c45) ?_
        show Steps p.tables e below (s₁.setTop (mkF m 48 #[.val (.int lr), .val (.int la), .val (.int nr), .val (.int fl), .val (.double (FP.i2d (own_len lr))), .second, .val (.int (own_n nr)), .val (.int (fl &&& (3 : Int32))), .val (.int rv), .unset, .unset, .unset, .unset] [])) _
        refine XS.iloadN X0.here hx rfl (hb hby at_48) rfl ?_
        show Steps p.tables e below (s₁.setTop (mkF m 49 #[.val (.int lr), .val (.int la), .val (.int nr), .val (.int fl), .val (.double (FP.i2d (own_len lr))), .second, .val (.int (own_n nr)), .val (.int (fl &&& (3 : Int32))), .val (.int rv), .unset, .unset, .unset, .unset] [(.int la)])) _
        refine XS.goto X0.here hx rfl (pc0 := 49) (pc' := 56) rfl (hb hby at_49) (by decide) (by decide) ?_
        show Steps p.tables e below (s₁.setTop (mkF m 56 #[.val (.int lr), .val (.int la), .val (.int nr), .val (.int fl), .val (.double (FP.i2d (own_len lr))), .second, .val (.int (own_n nr)), .val (.int (fl &&& (3 : Int32))), .val (.int rv), .unset, .unset, .unset, .unset] [(.int la)])) _
        refine XS.istore X0.here hx rfl (hb hby at_56) rfl (l' := #[.val (.int lr), .val (.int la), .val (.int nr), .val (.int fl), .val (.double (FP.i2d (own_len lr))), .second, .val (.int (own_n nr)), .val (.int (fl &&& (3 : Int32))), .val (.int rv), .val (.int la), .unset, .unset, .unset]) rfl ?_
        show Steps p.tables e below (s₁.setTop (mkF m 58 #[.val (.int lr), .val (.int la), .val (.int nr), .val (.int fl), .val (.double (FP.i2d (own_len lr))), .second, .val (.int (own_n nr)), .val (.int (fl &&& (3 : Int32))), .val (.int rv), .val (.int la), .unset, .unset, .unset] [])) _
        exact hh)
      exact ⟨la, trivial, k15⟩
  have k16 : own_K p e below (s₁.setTop (mkF m 60 #[.val (.int lr), .val (.int la), .val (.int nr), .val (.int fl), .val (.double (FP.i2d (own_len lr))), .second, .val (.int (own_n nr)), .val (.int (fl &&& (3 : Int32))), .val (.int rv), .val (.int lane), .unset, .unset, .unset] [(.int (fl &&& (3 : Int32)))])) (s₁.setTop (entryFrame m #[(.int lr), (.int la), (.int nr), (.int fl)] maxLocals)) := fun t hh => k12 t (by
    refine XS.iload X0.here hx rfl (hb hby at_58) rfl ?_
    show Steps p.tables e below (s₁.setTop (mkF m 60 #[.val (.int lr), .val (.int la), .val (.int nr), .val (.int fl), .val (.double (FP.i2d (own_len lr))), .second, .val (.int (own_n nr)), .val (.int (fl &&& (3 : Int32))), .val (.int rv), .val (.int lane), .unset, .unset, .unset] [(.int (fl &&& (3 : Int32)))])) _
    exact hh)
  by_cases c60 : (fl &&& (3 : Int32)) = 0
  ·
    have k17 : own_K p e below (s₁.setTop (mkF m 63 #[.val (.int lr), .val (.int la), .val (.int nr), .val (.int fl), .val (.double (FP.i2d (own_len lr))), .second, .val (.int (own_n nr)), .val (.int (fl &&& (3 : Int32))), .val (.int rv), .val (.int lane), .unset, .unset, .unset] [])) (s₁.setTop (entryFrame m #[(.int lr), (.int la), (.int nr), (.int fl)] maxLocals)) := fun t hh => k16 t (by
      refine XS.ifNo X0.here hx rfl (hb hby at_60) rfl (own_ifF_ne c60) ?_
      show Steps p.tables e below (s₁.setTop (mkF m 63 #[.val (.int lr), .val (.int la), .val (.int nr), .val (.int fl), .val (.double (FP.i2d (own_len lr))), .second, .val (.int (own_n nr)), .val (.int (fl &&& (3 : Int32))), .val (.int rv), .val (.int lane), .unset, .unset, .unset] [])) _
      exact hh)
    obtain ⟨T707, h708, X709, e710, E711, A712, D713, U715, st714⟩ := newO X0 hx hZ hown (wT hw 1 rfl) (wT hw 2 rfl) (wT hw 3 rfl) e0 (g := (mkF m 63 #[.val (.int lr), .val (.int la), .val (.int nr), .val (.int fl), .val (.double (FP.i2d (own_len lr))), .second, .val (.int (own_n nr)), .val (.int (fl &&& (3 : Int32))), .val (.int rv), .val (.int lane), .unset, .unset, .unset] [])) rfl (hb hby at_63) (by decide) (by decide)
    obtain ⟨a716, g717⟩ : ∃ z, z = h0.size := ⟨_, rfl⟩
    rw [← g717] at A712 D713 U715 st714
    have G718 : n0 ≤ a716 := Nat.le_trans Z0 (Nat.le_of_eq g717.symm)
    have hk719 := Nat.le_trans hk0 (show h0.size ≤ h708.size from E711.1)
    have Z720 : n0 ≤ h708.size := Nat.le_trans Z0 E711.1
    have F721 : Fld Z h708 a716 "com/example/ample_gap/amplegap/simulation/Road" "length" "D" (.double (0 : UInt64)) := D713 (Or.inr (wT hw 38 rfl)) (ty := .double) (by decide)
    have F722 : Fld Z h708 a716 "com/example/ample_gap/amplegap/simulation/Road" "lanes" "I" (.int (0 : Int32)) := D713 (Or.inr (wT hw 40 rfl)) (ty := .int) (by decide)
    have F723 : Fld Z h708 a716 "com/example/ample_gap/amplegap/simulation/Road" "ring" "Z" (.int (0 : Int32)) := D713 (Or.inr (wT hw 42 rfl)) (ty := .boolean) (by decide)
    have F724 : Fld Z h708 a716 "com/example/ample_gap/amplegap/simulation/Road" "onRamp" "Lcom/example/ample_gap/amplegap/simulation/OnRamp;" .null := D713 (Or.inr (wT hw 44 rfl)) (ty := .object "com/example/ample_gap/amplegap/simulation/OnRamp") (by decide)
    have k18 : own_K p e below (T707.setTop (mkF m 66 #[.val (.int lr), .val (.int la), .val (.int nr), .val (.int fl), .val (.double (FP.i2d (own_len lr))), .second, .val (.int (own_n nr)), .val (.int (fl &&& (3 : Int32))), .val (.int rv), .val (.int lane), .unset, .unset, .unset] [(.ref a716)])) (s₁.setTop (entryFrame m #[(.int lr), (.int la), (.int nr), (.int fl)] maxLocals)) := fun t hh => k17 t (st714 t hh)
    have k19 : own_K p e below (T707.setTop (mkF m 69 #[.val (.int lr), .val (.int la), .val (.int nr), .val (.int fl), .val (.double (FP.i2d (own_len lr))), .second, .val (.int (own_n nr)), .val (.int (fl &&& (3 : Int32))), .val (.int rv), .val (.int lane), .unset, .unset, .unset] [(.double (FP.i2d (own_len lr))), (.ref a716), (.ref a716)])) (s₁.setTop (entryFrame m #[(.int lr), (.int la), (.int nr), (.int fl)] maxLocals)) := fun t hh => k18 t (by
      refine XS.dup X709.here hx rfl (hb hby at_66) rfl rfl ?_
      show Steps p.tables e below (T707.setTop (mkF m 67 #[.val (.int lr), .val (.int la), .val (.int nr), .val (.int fl), .val (.double (FP.i2d (own_len lr))), .second, .val (.int (own_n nr)), .val (.int (fl &&& (3 : Int32))), .val (.int rv), .val (.int lane), .unset, .unset, .unset] [(.ref a716), (.ref a716)])) _
      refine XS.dload X709.here hx rfl (hb hby at_67) rfl ?_
      show Steps p.tables e below (T707.setTop (mkF m 69 #[.val (.int lr), .val (.int la), .val (.int nr), .val (.int fl), .val (.double (FP.i2d (own_len lr))), .second, .val (.int (own_n nr)), .val (.int (fl &&& (3 : Int32))), .val (.int rv), .val (.int lane), .unset, .unset, .unset] [(.double (FP.i2d (own_len lr))), (.ref a716), (.ref a716)])) _
      exact hh)
    obtain ⟨_, _, ⟨T725, L726, k_727, n_728⟩, -, X729, hSc736, hgr737, ⟨Lc730, hQ731, l_732, y_733, z_734⟩, st735⟩ := X709.specialBackS hx (y := (⟨"com/example/ample_gap/amplegap/simulation/Road", "<init>", "(D)V"⟩ : MethodName)) rfl hown (mvT hZ (wT hw 60 rfl)) (mvT hZ (wT hw 61 rfl)) (mvT hZ (wT hw 62 rfl)) (by decide) (backOfS (W := 1) (rmC1 l Z a0 hw [] a716 (FP.i2d (own_len lr)) h708 n0 Z720 A712 G718 F721 F722 F723 F724 (own_no _) (own_fin_le (i2d_fin _)) (own_pos (own_len_rng lr).1)) hZ (wT hw 62 rfl) (wT hw 3 rfl) (by decide) (by decide)) (g := (mkF m 69 #[.val (.int lr), .val (.int la), .val (.int nr), .val (.int fl), .val (.double (FP.i2d (own_len lr))), .second, .val (.int (own_n nr)), .val (.int (fl &&& (3 : Int32))), .val (.int rv), .val (.int lane), .unset, .unset, .unset] [(.double (FP.i2d (own_len lr))), (.ref a716), (.ref a716)])) rfl (by rw [hml]; rfl) (Steps.refl _) (a := a716) (argsL := [(.double (FP.i2d (own_len lr)))]) (rest := [(.ref a716)]) (lenOf own_h20 rfl) rfl (by show 2 * 0 + _ ≤ _; exact Nat.le_of_eq rfl) (hb hby at_69) (fun _ _ => ⟨rfl, e710, (by decide : 1 + 2 ≤ _), (by decide : 4 + 48 ≤ _)⟩)
    dsimp only [Pt.U, Pt.locs, Pt.cells, Pt.slots] at X729 hSc736 hgr737 l_732 y_733 z_734 st735 hQ731
    subst l_732 y_733 z_734
    obtain ⟨X739, hS740, hZ741, hown742⟩ := rebS hS0 (by rw [e710]; exact hk719) X729 hSc736 hgr737 hZ hown
    obtain ⟨rfl, N743, K744, E745, F746, F747, F748, F749⟩ := hQ731
    have N750 := Fr.app N0 N743
    have F751 := A712.keep K744
    have Z752 : n0 ≤ T725.heap.size := Nat.le_trans Z720 K744.1
    have hk753 := Nat.le_trans hk719 (show h708.size ≤ T725.heap.size from K744.1)
    have e754 : T725.heap = T725.heap := rfl
    have k20 : own_K p e below (T725.setTop (mkF m 72 #[.val (.int lr), .val (.int la), .val (.int nr), .val (.int fl), .val (.double (FP.i2d (own_len lr))), .second, .val (.int (own_n nr)), .val (.int (fl &&& (3 : Int32))), .val (.int rv), .val (.int lane), .unset, .unset, .unset] [(.ref a716)])) (s₁.setTop (entryFrame m #[(.int lr), (.int la), (.int nr), (.int fl)] maxLocals)) := fun t hh => k19 t (st735.trans hh)
    have k21 : own_K p e below (T725.setTop (mkF m 121 #[.val (.int lr), .val (.int la), .val (.int nr), .val (.int fl), .val (.double (FP.i2d (own_len lr))), .second, .val (.int (own_n nr)), .val (.int (fl &&& (3 : Int32))), .val (.int rv), .val (.int lane), .val (.ref a716), .val (.int (1 : Int32)), .unset] [(.int rv)])) (s₁.setTop (entryFrame m #[(.int lr), (.int la), (.int nr), (.int fl)] maxLocals)) := fun t hh => k20 t (by
      refine XS.astore X739.here hx rfl (hb hby at_72) rfl rfl (l' := #[.val (.int lr), .val (.int la), .val (.int nr), .val (.int fl), .val (.double (FP.i2d (own_len lr))), .second, .val (.int (own_n nr)), .val (.int (fl &&& (3 : Int32))), .val (.int rv), .val (.int lane), .val (.ref a716), .unset, .unset]) rfl ?_
      show Steps p.tables e below (T725.setTop (mkF m 74 #[.val (.int lr), .val (.int la), .val (.int nr), .val (.int fl), .val (.double (FP.i2d (own_len lr))), .second, .val (.int (own_n nr)), .val (.int (fl &&& (3 : Int32))), .val (.int rv), .val (.int lane), .val (.ref a716), .unset, .unset] [])) _
      refine XS.iconst X739.here hx rfl (hb hby at_74) ?_
      show Steps p.tables e below (T725.setTop (mkF m 75 #[.val (.int lr), .val (.int la), .val (.int nr), .val (.int fl), .val (.double (FP.i2d (own_len lr))), .second, .val (.int (own_n nr)), .val (.int (fl &&& (3 : Int32))), .val (.int rv), .val (.int lane), .val (.ref a716), .unset, .unset] [(.int (1 : Int32))])) _
      refine XS.istore X739.here hx rfl (hb hby at_75) rfl (l' := #[.val (.int lr), .val (.int la), .val (.int nr), .val (.int fl), .val (.double (FP.i2d (own_len lr))), .second, .val (.int (own_n nr)), .val (.int (fl &&& (3 : Int32))), .val (.int rv), .val (.int lane), .val (.ref a716), .val (.int (1 : Int32)), .unset]) rfl ?_
      show Steps p.tables e below (T725.setTop (mkF m 77 #[.val (.int lr), .val (.int la), .val (.int nr), .val (.int fl), .val (.double (FP.i2d (own_len lr))), .second, .val (.int (own_n nr)), .val (.int (fl &&& (3 : Int32))), .val (.int rv), .val (.int lane), .val (.ref a716), .val (.int (1 : Int32)), .unset] [])) _
      refine XS.goto X739.here hx rfl (pc0 := 77) (pc' := 119) rfl (hb hby at_77) (by decide) (by decide) ?_
      show Steps p.tables e below (T725.setTop (mkF m 119 #[.val (.int lr), .val (.int la), .val (.int nr), .val (.int fl), .val (.double (FP.i2d (own_len lr))), .second, .val (.int (own_n nr)), .val (.int (fl &&& (3 : Int32))), .val (.int rv), .val (.int lane), .val (.ref a716), .val (.int (1 : Int32)), .unset] [])) _
      refine XS.iload X739.here hx rfl (hb hby at_119) rfl ?_
      show Steps p.tables e below (T725.setTop (mkF m 121 #[.val (.int lr), .val (.int la), .val (.int nr), .val (.int fl), .val (.double (FP.i2d (own_len lr))), .second, .val (.int (own_n nr)), .val (.int (fl &&& (3 : Int32))), .val (.int rv), .val (.int lane), .val (.ref a716), .val (.int (1 : Int32)), .unset] [(.int rv)])) _
      exact hh)
    by_cases c121 : rv = 0
    ·
      have k22 : own_K p e below (T725.setTop (mkF m 141 #[.val (.int lr), .val (.int la), .val (.int nr), .val (.int fl), .val (.double (FP.i2d (own_len lr))), .second, .val (.int (own_n nr)), .val (.int (fl &&& (3 : Int32))), .val (.int rv), .val (.int lane), .val (.ref a716), .val (.int (1 : Int32)), .unset] [])) (s₁.setTop (entryFrame m #[(.int lr), (.int la), (.int nr), (.int fl)] maxLocals)) := fun t hh => k21 t (by
        refine XS.ifYes X739.here hx rfl (pc0 := 121) (pc' := 141) rfl (hb hby at_121) rfl (own_ifT_eq c121) (by decide) (by decide) ?_
        show Steps p.tables e below (T725.setTop (mkF m 141 #[.val (.int lr), .val (.int la), .val (.int nr), .val (.int fl), .val (.double (FP.i2d (own_len lr))), .second, .val (.int (own_n nr)), .val (.int (fl &&& (3 : Int32))), .val (.int rv), .val (.int lane), .val (.ref a716), .val (.int (1 : Int32)), .unset] [])) _
        exact hh)
      obtain ⟨ex, hM755, k23⟩ : ∃ ex : Int32, (ex = own_ex lane rv (1 : Int32)) ∧ own_K p e below (T725.setTop (mkF m 178 #[.val (.int lr), .val (.int la), .val (.int nr), .val (.int fl), .val (.double (FP.i2d (own_len lr))), .second, .val (.int (own_n nr)), .val (.int (fl &&& (3 : Int32))), .val (.int rv), .val (.int lane), .val (.ref a716), .val (.int (1 : Int32)), .val (.int ex)] [])) (s₁.setTop (entryFrame m #[(.int lr), (.int la), (.int nr), (.int fl)] maxLocals)) := by
        have k24 : own_K p e below (T725.setTop (mkF m 143 #[.val (.int lr), .val (.int la), .val (.int nr), .val (.int fl), .val (.double (FP.i2d (own_len lr))), .second, .val (.int (own_n nr)), .val (.int (fl &&& (3 : Int32))), .val (.int rv), .val (.int lane), .val (.ref a716), .val (.int (1 : Int32)), .unset] [(.int lane)])) (s₁.setTop (entryFrame m #[(.int lr), (.int la), (.int nr), (.int fl)] maxLocals)) := fun t hh => k22 t (by
          refine XS.iload X739.here hx rfl (hb hby at_141) rfl ?_
          show Steps p.tables e below (T725.setTop (mkF m 143 #[.val (.int lr), .val (.int la), .val (.int nr), .val (.int fl), .val (.double (FP.i2d (own_len lr))), .second, .val (.int (own_n nr)), .val (.int (fl &&& (3 : Int32))), .val (.int rv), .val (.int lane), .val (.ref a716), .val (.int (1 : Int32)), .unset] [(.int lane)])) _
          exact hh)
        by_cases c143 : lane < 0
        ·
          have k25 : own_K p e below (T725.setTop (mkF m 178 #[.val (.int lr), .val (.int la), .val (.int nr), .val (.int fl), .val (.double (FP.i2d (own_len lr))), .second, .val (.int (own_n nr)), .val (.int (fl &&& (3 : Int32))), .val (.int rv), .val (.int lane), .val (.ref a716), .val (.int (1 : Int32)), .val (.int (0 : Int32))] [])) (s₁.setTop (entryFrame m #[(.int lr), (.int la), (.int nr), (.int fl)] maxLocals)) := fun t hh => k24 t (by
            refine XS.ifNo X739.here hx rfl (hb hby at_143) rfl (own_ifF_ge c143) ?_
            show Steps p.tables e below (T725.setTop (mkF m 146 #[.val (.int lr), .val (.int la), .val (.int nr), .val (.int fl), .val (.double (FP.i2d (own_len lr))), .second, .val (.int (own_n nr)), .val (.int (fl &&& (3 : Int32))), .val (.int rv), .val (.int lane), .val (.ref a716), .val (.int (1 : Int32)), .unset] [])) _
            refine XS.iconst X739.here hx rfl (hb hby at_146) ?_
            show Steps p.tables e below (T725.setTop (mkF m 147 #[.val (.int lr), .val (.int la), .val (.int nr), .val (.int fl), .val (.double (FP.i2d (own_len lr))), .second, .val (.int (own_n nr)), .val (.int (fl &&& (3 : Int32))), .val (.int rv), .val (.int lane), .val (.ref a716), .val (.int (1 : Int32)), .unset] [(.int (0 : Int32))])) _
            refine XS.istore X739.here hx rfl (hb hby at_147) rfl (l' := #[.val (.int lr), .val (.int la), .val (.int nr), .val (.int fl), .val (.double (FP.i2d (own_len lr))), .second, .val (.int (own_n nr)), .val (.int (fl &&& (3 : Int32))), .val (.int rv), .val (.int lane), .val (.ref a716), .val (.int (1 : Int32)), .val (.int (0 : Int32))]) rfl ?_
            show Steps p.tables e below (T725.setTop (mkF m 149 #[.val (.int lr), .val (.int la), .val (.int nr), .val (.int fl), .val (.double (FP.i2d (own_len lr))), .second, .val (.int (own_n nr)), .val (.int (fl &&& (3 : Int32))), .val (.int rv), .val (.int lane), .val (.ref a716), .val (.int (1 : Int32)), .val (.int (0 : Int32))] [])) _
            refine XS.goto X739.here hx rfl (pc0 := 149) (pc' := 178) rfl (hb hby at_149) (by decide) (by decide) ?_
            show Steps p.tables e below (T725.setTop (mkF m 178 #[.val (.int lr), .val (.int la), .val (.int nr), .val (.int fl), .val (.double (FP.i2d (own_len lr))), .second, .val (.int (own_n nr)), .val (.int (fl &&& (3 : Int32))), .val (.int rv), .val (.int lane), .val (.ref a716), .val (.int (1 : Int32)), .val (.int (0 : Int32))] [])) _
            exact hh)
          exact ⟨(0 : Int32), (by first | (simp only [own_ex, c143, if_true, if_false]; done) | (simp [own_ex, c143]; done)), k25⟩
        ·
          have k26 : own_K p e below (T725.setTop (mkF m 154 #[.val (.int lr), .val (.int la), .val (.int nr), .val (.int fl), .val (.double (FP.i2d (own_len lr))), .second, .val (.int (own_n nr)), .val (.int (fl &&& (3 : Int32))), .val (.int rv), .val (.int lane), .val (.ref a716), .val (.int (1 : Int32)), .unset] [(.int lane)])) (s₁.setTop (entryFrame m #[(.int lr), (.int la), (.int nr), (.int fl)] maxLocals)) := fun t hh => k24 t (by
            refine XS.ifYes X739.here hx rfl (pc0 := 143) (pc' := 152) rfl (hb hby at_143) rfl (own_ifT_ge c143) (by decide) (by decide) ?_
            show Steps p.tables e below (T725.setTop (mkF m 152 #[.val (.int lr), .val (.int la), .val (.int nr), .val (.int fl), .val (.double (FP.i2d (own_len lr))), .second, .val (.int (own_n nr)), .val (.int (fl &&& (3 : Int32))), .val (.int rv), .val (.int lane), .val (.ref a716), .val (.int (1 : Int32)), .unset] [])) _
            refine XS.iload X739.here hx rfl (hb hby at_152) rfl ?_
            show Steps p.tables e below (T725.setTop (mkF m 154 #[.val (.int lr), .val (.int la), .val (.int nr), .val (.int fl), .val (.double (FP.i2d (own_len lr))), .second, .val (.int (own_n nr)), .val (.int (fl &&& (3 : Int32))), .val (.int rv), .val (.int lane), .val (.ref a716), .val (.int (1 : Int32)), .unset] [(.int lane)])) _
            exact hh)
          by_cases c154 : lane = 0
          ·
            have k27 : own_K p e below (T725.setTop (mkF m 178 #[.val (.int lr), .val (.int la), .val (.int nr), .val (.int fl), .val (.double (FP.i2d (own_len lr))), .second, .val (.int (own_n nr)), .val (.int (fl &&& (3 : Int32))), .val (.int rv), .val (.int lane), .val (.ref a716), .val (.int (1 : Int32)), .val (.int rv)] [])) (s₁.setTop (entryFrame m #[(.int lr), (.int la), (.int nr), (.int fl)] maxLocals)) := fun t hh => k26 t (by
              refine XS.ifNo X739.here hx rfl (hb hby at_154) rfl (own_ifF_ne c154) ?_
              show Steps p.tables e below (T725.setTop (mkF m 157 #[.val (.int lr), .val (.int la), .val (.int nr), .val (.int fl), .val (.double (FP.i2d (own_len lr))), .second, .val (.int (own_n nr)), .val (.int (fl &&& (3 : Int32))), .val (.int rv), .val (.int lane), .val (.ref a716), .val (.int (1 : Int32)), .unset] [])) _
              refine XS.iload X739.here hx rfl (hb hby at_157) rfl ?_
              show Steps p.tables e below (T725.setTop (mkF m 159 #[.val (.int lr), .val (.int la), .val (.int nr), .val (.int fl), .val (.double (FP.i2d (own_len lr))), .second, .val (.int (own_n nr)), .val (.int (fl &&& (3 : Int32))), .val (.int rv), .val (.int lane), .val (.ref a716), .val (.int (1 : Int32)), .unset] [(.int rv)])) _
              refine XS.istore X739.here hx rfl (hb hby at_159) rfl (l' := #[.val (.int lr), .val (.int la), .val (.int nr), .val (.int fl), .val (.double (FP.i2d (own_len lr))), .second, .val (.int (own_n nr)), .val (.int (fl &&& (3 : Int32))), .val (.int rv), .val (.int lane), .val (.ref a716), .val (.int (1 : Int32)), .val (.int rv)]) rfl ?_
              show Steps p.tables e below (T725.setTop (mkF m 161 #[.val (.int lr), .val (.int la), .val (.int nr), .val (.int fl), .val (.double (FP.i2d (own_len lr))), .second, .val (.int (own_n nr)), .val (.int (fl &&& (3 : Int32))), .val (.int rv), .val (.int lane), .val (.ref a716), .val (.int (1 : Int32)), .val (.int rv)] [])) _
              refine XS.goto X739.here hx rfl (pc0 := 161) (pc' := 178) rfl (hb hby at_161) (by decide) (by decide) ?_
              show Steps p.tables e below (T725.setTop (mkF m 178 #[.val (.int lr), .val (.int la), .val (.int nr), .val (.int fl), .val (.double (FP.i2d (own_len lr))), .second, .val (.int (own_n nr)), .val (.int (fl &&& (3 : Int32))), .val (.int rv), .val (.int lane), .val (.ref a716), .val (.int (1 : Int32)), .val (.int rv)] [])) _
              exact hh)
            exact ⟨rv, (by first | (simp only [own_ex, c143, c154, if_true, if_false]; done) | (simp [own_ex, c143, c154]; done)), k27⟩
          ·
            have k28 : own_K p e below (T725.setTop (mkF m 168 #[.val (.int lr), .val (.int la), .val (.int nr), .val (.int fl), .val (.double (FP.i2d (own_len lr))), .second, .val (.int (own_n nr)), .val (.int (fl &&& (3 : Int32))), .val (.int rv), .val (.int lane), .val (.ref a716), .val (.int (1 : Int32)), .unset] [(.int (1 : Int32)), (.int lane)])) (s₁.setTop (entryFrame m #[(.int lr), (.int la), (.int nr), (.int fl)] maxLocals)) := fun t hh => k26 t (by
              refine XS.ifYes X739.here hx rfl (pc0 := 154) (pc' := 164) rfl (hb hby at_154) rfl (own_ifT_ne c154) (by decide) (by decide) ?_
              show Steps p.tables e below (T725.setTop (mkF m 164 #[.val (.int lr), .val (.int la), .val (.int nr), .val (.int fl), .val (.double (FP.i2d (own_len lr))), .second, .val (.int (own_n nr)), .val (.int (fl &&& (3 : Int32))), .val (.int rv), .val (.int lane), .val (.ref a716), .val (.int (1 : Int32)), .unset] [])) _
              refine XS.iload X739.here hx rfl (hb hby at_164) rfl ?_
              show Steps p.tables e below (T725.setTop (mkF m 166 #[.val (.int lr), .val (.int la), .val (.int nr), .val (.int fl), .val (.double (FP.i2d (own_len lr))), .second, .val (.int (own_n nr)), .val (.int (fl &&& (3 : Int32))), .val (.int rv), .val (.int lane), .val (.ref a716), .val (.int (1 : Int32)), .unset] [(.int lane)])) _
              refine XS.iload X739.here hx rfl (hb hby at_166) rfl ?_
              show Steps p.tables e below (T725.setTop (mkF m 168 #[.val (.int lr), .val (.int la), .val (.int nr), .val (.int fl), .val (.double (FP.i2d (own_len lr))), .second, .val (.int (own_n nr)), .val (.int (fl &&& (3 : Int32))), .val (.int rv), .val (.int lane), .val (.ref a716), .val (.int (1 : Int32)), .unset] [(.int (1 : Int32)), (.int lane)])) _
              exact hh)
            by_cases c168 : (1 : Int32) < lane
            ·
              have k29 : own_K p e below (T725.setTop (mkF m 178 #[.val (.int lr), .val (.int la), .val (.int nr), .val (.int fl), .val (.double (FP.i2d (own_len lr))), .second, .val (.int (own_n nr)), .val (.int (fl &&& (3 : Int32))), .val (.int rv), .val (.int lane), .val (.ref a716), .val (.int (1 : Int32)), .val (.int (0 : Int32))] [])) (s₁.setTop (entryFrame m #[(.int lr), (.int la), (.int nr), (.int fl)] maxLocals)) := fun t hh => k28 t (by
                refine XS.icmpYes X739.here hx rfl (pc0 := 168) (pc' := 175) rfl (hb hby at_168) rfl (own_icT_gt c168) (by decide) (by decide) ?_
                show Steps p.tables e below (T725.setTop (mkF m 175 #[.val (.int lr), .val (.int la), .val (.int nr), .val (.int fl), .val (.double (FP.i2d (own_len lr))), .second, .val (.int (own_n nr)), .val (.int (fl &&& (3 : Int32))), .val (.int rv), .val (.int lane), .val (.ref a716), .val (.int (1 : Int32)), .unset] [])) _
                refine XS.iconst X739.here hx rfl (hb hby at_175) ?_
                show Steps p.tables e below (T725.setTop (mkF m 176 #[.val (.int lr), .val (.int la), .val (.int nr), .val (.int fl), .val (.double (FP.i2d (own_len lr))), .second, .val (.int (own_n nr)), .val (.int (fl &&& (3 : Int32))), .val (.int rv), .val (.int lane), .val (.ref a716), .val (.int (1 : Int32)), .unset] [(.int (0 : Int32))])) _
                refine XS.istore X739.here hx rfl (hb hby at_176) rfl (l' := #[.val (.int lr), .val (.int la), .val (.int nr), .val (.int fl), .val (.double (FP.i2d (own_len lr))), .second, .val (.int (own_n nr)), .val (.int (fl &&& (3 : Int32))), .val (.int rv), .val (.int lane), .val (.ref a716), .val (.int (1 : Int32)), .val (.int (0 : Int32))]) rfl ?_
                show Steps p.tables e below (T725.setTop (mkF m 178 #[.val (.int lr), .val (.int la), .val (.int nr), .val (.int fl), .val (.double (FP.i2d (own_len lr))), .second, .val (.int (own_n nr)), .val (.int (fl &&& (3 : Int32))), .val (.int rv), .val (.int lane), .val (.ref a716), .val (.int (1 : Int32)), .val (.int (0 : Int32))] [])) _
                exact hh)
              exact ⟨(0 : Int32), (by first | (simp only [own_ex, c143, c154, c168, if_true, if_false]; done) | (simp [own_ex, c143, c154, c168]; done)), k29⟩
            ·
              have k30 : own_K p e below (T725.setTop (mkF m 178 #[.val (.int lr), .val (.int la), .val (.int nr), .val (.int fl), .val (.double (FP.i2d (own_len lr))), .second, .val (.int (own_n nr)), .val (.int (fl &&& (3 : Int32))), .val (.int rv), .val (.int lane), .val (.ref a716), .val (.int (1 : Int32)), .val (.int (1 : Int32))] [])) (s₁.setTop (entryFrame m #[(.int lr), (.int la), (.int nr), (.int fl)] maxLocals)) := fun t hh => k28 t (by
                refine XS.icmpNo X739.here hx rfl (hb hby at_168) rfl (own_icF_gt c168) ?_
                show Steps p.tables e below (T725.setTop (mkF m 171 #[.val (.int lr), .val (.int la), .val (.int nr), .val (.int fl), .val (.double (FP.i2d (own_len lr))), .second, .val (.int (own_n nr)), .val (.int (fl &&& (3 : Int32))), .val (.int rv), .val (.int lane), .val (.ref a716), .val (.int (1 : Int32)), .unset] [])) _
                refine XS.iconst X739.here hx rfl (hb hby at_171) ?_
                show Steps p.tables e below (T725.setTop (mkF m 172 #[.val (.int lr), .val (.int la), .val (.int nr), .val (.int fl), .val (.double (FP.i2d (own_len lr))), .second, .val (.int (own_n nr)), .val (.int (fl &&& (3 : Int32))), .val (.int rv), .val (.int lane), .val (.ref a716), .val (.int (1 : Int32)), .unset] [(.int (1 : Int32))])) _
                refine XS.goto X739.here hx rfl (pc0 := 172) (pc' := 176) rfl (hb hby at_172) (by decide) (by decide) ?_
                show Steps p.tables e below (T725.setTop (mkF m 176 #[.val (.int lr), .val (.int la), .val (.int nr), .val (.int fl), .val (.double (FP.i2d (own_len lr))), .second, .val (.int (own_n nr)), .val (.int (fl &&& (3 : Int32))), .val (.int rv), .val (.int lane), .val (.ref a716), .val (.int (1 : Int32)), .unset] [(.int (1 : Int32))])) _
                refine XS.istore X739.here hx rfl (hb hby at_176) rfl (l' := #[.val (.int lr), .val (.int la), .val (.int nr), .val (.int fl), .val (.double (FP.i2d (own_len lr))), .second, .val (.int (own_n nr)), .val (.int (fl &&& (3 : Int32))), .val (.int rv), .val (.int lane), .val (.ref a716), .val (.int (1 : Int32)), .val (.int (1 : Int32))]) rfl ?_
                show Steps p.tables e below (T725.setTop (mkF m 178 #[.val (.int lr), .val (.int la), .val (.int nr), .val (.int fl), .val (.double (FP.i2d (own_len lr))), .second, .val (.int (own_n nr)), .val (.int (fl &&& (3 : Int32))), .val (.int rv), .val (.int lane), .val (.ref a716), .val (.int (1 : Int32)), .val (.int (1 : Int32))] [])) _
                exact hh)
              exact ⟨(1 : Int32), (by first | (simp only [own_ex, c143, c154, c168, if_true, if_false]; done) | (simp [own_ex, c143, c154, c168]; done)), k30⟩
      have k31 : own_K p e below (T725.setTop (mkF m 182 #[.val (.int lr), .val (.int la), .val (.int nr), .val (.int fl), .val (.double (FP.i2d (own_len lr))), .second, .val (.int (own_n nr)), .val (.int (fl &&& (3 : Int32))), .val (.int rv), .val (.int lane), .val (.ref a716), .val (.int (1 : Int32)), .val (.int ex)] [(.int lane), (.ref a716)])) (s₁.setTop (entryFrame m #[(.int lr), (.int la), (.int nr), (.int fl)] maxLocals)) := fun t hh => k23 t (by
        refine XS.aload X739.here hx rfl (hb hby at_178) rfl rfl ?_
        show Steps p.tables e below (T725.setTop (mkF m 180 #[.val (.int lr), .val (.int la), .val (.int nr), .val (.int fl), .val (.double (FP.i2d (own_len lr))), .second, .val (.int (own_n nr)), .val (.int (fl &&& (3 : Int32))), .val (.int rv), .val (.int lane), .val (.ref a716), .val (.int (1 : Int32)), .val (.int ex)] [(.ref a716)])) _
        refine XS.iload X739.here hx rfl (hb hby at_180) rfl ?_
        show Steps p.tables e below (T725.setTop (mkF m 182 #[.val (.int lr), .val (.int la), .val (.int nr), .val (.int fl), .val (.double (FP.i2d (own_len lr))), .second, .val (.int (own_n nr)), .val (.int (fl &&& (3 : Int32))), .val (.int rv), .val (.int lane), .val (.ref a716), .val (.int (1 : Int32)), .val (.int ex)] [(.int lane), (.ref a716)])) _
        exact hh)
      obtain ⟨cq767, kq768, qa769, qb770, qc771⟩ := isOf hZ741 e754 E745
      obtain ⟨_, _, ⟨T756, L757, k_758, n_759⟩, -, X760, ⟨Lc761, hQ762, l_763, y_764, z_765⟩, st766⟩ := X739.virtualBack hx (y := (⟨"com/example/ample_gap/amplegap/simulation/Road", "hasLane", "(I)Z"⟩ : MethodName)) (z := (⟨"com/example/ample_gap/amplegap/simulation/Road", "hasLane", "(I)Z"⟩ : MethodName)) hown742 (mvT hZ741 (wT hw 45 rfl)) (mvT hZ741 (wT hw 46 rfl)) (notFace_of_selects (args := #[]) (mvT hZ741 (wT hw 48 rfl))) (mvT hZ741 (wT hw 48 rfl)) (mvT hZ741 (wT hw 47 rfl)) (by decide) (backOf (W := 0) (rmH1 l Z a0 hw [] a716 lane (1 : Int32) T725.heap n0 Z752 E745 F749 F747) hZ741 (wT hw 49 rfl) (wT hw 3 rfl) (by decide) (by decide)) qa769 qc771 (g := (mkF m 182 #[.val (.int lr), .val (.int la), .val (.int nr), .val (.int fl), .val (.double (FP.i2d (own_len lr))), .second, .val (.int (own_n nr)), .val (.int (fl &&& (3 : Int32))), .val (.int rv), .val (.int lane), .val (.ref a716), .val (.int (1 : Int32)), .val (.int ex)] [(.int lane), (.ref a716)])) rfl (by rw [hml]; rfl) (Steps.refl _) (argsL := [(.int lane)]) (rest := []) (lenOf own_h17 rfl) rfl (by show 2 * 0 + _ ≤ _; exact Nat.le_of_eq rfl) (hb hby at_182) (fun _ _ => ⟨rfl, e754, (by decide : 3 + 0 ≤ _), (by decide : 52 + 0 ≤ _)⟩)
      dsimp only [Pt.U, Pt.locs, Pt.cells, Pt.slots] at X760 l_763 y_764 z_765 st766 hQ762
      subst l_763 y_764 z_765
      obtain ⟨rfl, N772, e773⟩ := hQ762
      have N774 := Fr.app N750 N772
      have k32 : own_K p e below (T756.setTop (mkF m 185 #[.val (.int lr), .val (.int la), .val (.int nr), .val (.int fl), .val (.double (FP.i2d (own_len lr))), .second, .val (.int (own_n nr)), .val (.int (fl &&& (3 : Int32))), .val (.int rv), .val (.int lane), .val (.ref a716), .val (.int (1 : Int32)), .val (.int ex)] [(.int (own_hl lane (1 : Int32) (1 : Int32)))])) (s₁.setTop (entryFrame m #[(.int lr), (.int la), (.int nr), (.int fl)] maxLocals)) := fun t hh => k31 t (st766.trans hh)
      have k33 : own_K p e below (T756.setTop (mkF m 195 #[.val (.int lr), .val (.int la), .val (.int nr), .val (.int fl), .val (.double (FP.i2d (own_len lr))), .second, .val (.int (own_n nr)), .val (.int (fl &&& (3 : Int32))), .val (.int rv), .val (.int lane), .val (.ref a716), .val (.int (1 : Int32)), .val (.int ex)] [(.int (1 : Int32))])) (s₁.setTop (entryFrame m #[(.int lr), (.int la), (.int nr), (.int fl)] maxLocals)) := fun t hh => k32 t (by
        refine XS.iload X760.here hx rfl (hb hby at_185) rfl ?_
        show Steps p.tables e below (T756.setTop (mkF m 187 #[.val (.int lr), .val (.int la), .val (.int nr), .val (.int fl), .val (.double (FP.i2d (own_len lr))), .second, .val (.int (own_n nr)), .val (.int (fl &&& (3 : Int32))), .val (.int rv), .val (.int lane), .val (.ref a716), .val (.int (1 : Int32)), .val (.int ex)] [(.int ex), (.int (own_hl lane (1 : Int32) (1 : Int32)))])) _
        refine XS.icmpNo X760.here hx rfl (hb hby at_187) rfl (own_icF_ne ((own_same0 lane (1 : Int32) (by decide)).trans (by rw [hM755, c121]))) ?_
        show Steps p.tables e below (T756.setTop (mkF m 190 #[.val (.int lr), .val (.int la), .val (.int nr), .val (.int fl), .val (.double (FP.i2d (own_len lr))), .second, .val (.int (own_n nr)), .val (.int (fl &&& (3 : Int32))), .val (.int rv), .val (.int lane), .val (.ref a716), .val (.int (1 : Int32)), .val (.int ex)] [])) _
        refine XS.iconst X760.here hx rfl (hb hby at_190) ?_
        show Steps p.tables e below (T756.setTop (mkF m 191 #[.val (.int lr), .val (.int la), .val (.int nr), .val (.int fl), .val (.double (FP.i2d (own_len lr))), .second, .val (.int (own_n nr)), .val (.int (fl &&& (3 : Int32))), .val (.int rv), .val (.int lane), .val (.ref a716), .val (.int (1 : Int32)), .val (.int ex)] [(.int (1 : Int32))])) _
        refine XS.goto X760.here hx rfl (pc0 := 191) (pc' := 195) rfl (hb hby at_191) (by decide) (by decide) ?_
        show Steps p.tables e below (T756.setTop (mkF m 195 #[.val (.int lr), .val (.int la), .val (.int nr), .val (.int fl), .val (.double (FP.i2d (own_len lr))), .second, .val (.int (own_n nr)), .val (.int (fl &&& (3 : Int32))), .val (.int rv), .val (.int lane), .val (.ref a716), .val (.int (1 : Int32)), .val (.int ex)] [(.int (1 : Int32))])) _
        exact hh)
      obtain ⟨fs, hr, hrun, hended, hEnd⟩ := X760.leaveW hS740 (by rw [e773]; exact (Nat.le_refl T725.heap.size)) (v := some (.int (1 : Int32))) (fun h => by rw [Bd.returns] at h; cases h)
      refine ⟨_, _, k33 _ (retN X760 hx (t := .boolean) Bd.returns (by simp) (hb hby at_195) hr), hrun, hended, _, _, rfl, ?_, hEnd.1, hEnd.2.1, hEnd.2.2.1, hEnd.2.2.2.mono (by decide) (by decide)⟩
      show QL h0 n0 _ T756.heap _
      rw [e773]
      exact ⟨rfl, N774⟩
    ·
      have k34 : own_K p e below (T725.setTop (mkF m 126 #[.val (.int lr), .val (.int la), .val (.int nr), .val (.int fl), .val (.double (FP.i2d (own_len lr))), .second, .val (.int (own_n nr)), .val (.int (fl &&& (3 : Int32))), .val (.int rv), .val (.int lane), .val (.ref a716), .val (.int (1 : Int32)), .unset] [(.ref a716)])) (s₁.setTop (entryFrame m #[(.int lr), (.int la), (.int nr), (.int fl)] maxLocals)) := fun t hh => k21 t (by
        refine XS.ifNo X739.here hx rfl (hb hby at_121) rfl (own_ifF_eq c121) ?_
        show Steps p.tables e below (T725.setTop (mkF m 124 #[.val (.int lr), .val (.int la), .val (.int nr), .val (.int fl), .val (.double (FP.i2d (own_len lr))), .second, .val (.int (own_n nr)), .val (.int (fl &&& (3 : Int32))), .val (.int rv), .val (.int lane), .val (.ref a716), .val (.int (1 : Int32)), .unset] [])) _
        refine XS.aload X739.here hx rfl (hb hby at_124) rfl rfl ?_
        show Steps p.tables e below (T725.setTop (mkF m 126 #[.val (.int lr), .val (.int la), .val (.int nr), .val (.int fl), .val (.double (FP.i2d (own_len lr))), .second, .val (.int (own_n nr)), .val (.int (fl &&& (3 : Int32))), .val (.int rv), .val (.int lane), .val (.ref a716), .val (.int (1 : Int32)), .unset] [(.ref a716)])) _
        exact hh)
      obtain ⟨T775, h776, X777, e778, E779, A780, D781, U783, st782⟩ := newO X739 hx hZ741 hown742 (wT hw 63 rfl) (wT hw 64 rfl) (wT hw 65 rfl) e754 (g := (mkF m 126 #[.val (.int lr), .val (.int la), .val (.int nr), .val (.int fl), .val (.double (FP.i2d (own_len lr))), .second, .val (.int (own_n nr)), .val (.int (fl &&& (3 : Int32))), .val (.int rv), .val (.int lane), .val (.ref a716), .val (.int (1 : Int32)), .unset] [(.ref a716)])) rfl (hb hby at_126) (by decide) (by decide)
      obtain ⟨a784, g785⟩ : ∃ z, z = T725.heap.size := ⟨_, rfl⟩
      rw [← g785] at A780 D781 U783 st782
      have G786 : n0 ≤ a784 := Nat.le_trans Z752 (Nat.le_of_eq g785.symm)
      have hk787 := Nat.le_trans (Nat.le_refl T725.heap.size) (show T725.heap.size ≤ h776.size from E779.1)
      have F788 := Exa.ext (h' := h776) E779 E745
      have F789 := Fld.ext (h' := h776) E779 F746
      have F790 := Fld.ext (h' := h776) E779 F747
      have F791 := Fld.ext (h' := h776) E779 F748
      have F792 := Fld.ext (h' := h776) E779 F749
      have Z793 : n0 ≤ h776.size := Nat.le_trans Z752 E779.1
      have F794 : Fld Z h776 a784 "com/example/ample_gap/amplegap/simulation/OnRamp" "start" "D" (.double (0 : UInt64)) := D781 (Or.inr (wT hw 77 rfl)) (ty := .double) (by decide)
      have F795 : Fld Z h776 a784 "com/example/ample_gap/amplegap/simulation/OnRamp" "end" "D" (.double (0 : UInt64)) := D781 (Or.inr (wT hw 79 rfl)) (ty := .double) (by decide)
      have k35 : own_K p e below (T775.setTop (mkF m 129 #[.val (.int lr), .val (.int la), .val (.int nr), .val (.int fl), .val (.double (FP.i2d (own_len lr))), .second, .val (.int (own_n nr)), .val (.int (fl &&& (3 : Int32))), .val (.int rv), .val (.int lane), .val (.ref a716), .val (.int (1 : Int32)), .unset] [(.ref a784), (.ref a716)])) (s₁.setTop (entryFrame m #[(.int lr), (.int la), (.int nr), (.int fl)] maxLocals)) := fun t hh => k34 t (st782 t hh)
      have k36 : own_K p e below (T775.setTop (mkF m 133 #[.val (.int lr), .val (.int la), .val (.int nr), .val (.int fl), .val (.double (FP.i2d (own_len lr))), .second, .val (.int (own_n nr)), .val (.int (fl &&& (3 : Int32))), .val (.int rv), .val (.int lane), .val (.ref a716), .val (.int (1 : Int32)), .unset] [(.double (FP.i2d (own_len lr))), (.double FP.dconst0), (.ref a784), (.ref a784), (.ref a716)])) (s₁.setTop (entryFrame m #[(.int lr), (.int la), (.int nr), (.int fl)] maxLocals)) := fun t hh => k35 t (by
        refine XS.dup X777.here hx rfl (hb hby at_129) rfl rfl ?_
        show Steps p.tables e below (T775.setTop (mkF m 130 #[.val (.int lr), .val (.int la), .val (.int nr), .val (.int fl), .val (.double (FP.i2d (own_len lr))), .second, .val (.int (own_n nr)), .val (.int (fl &&& (3 : Int32))), .val (.int rv), .val (.int lane), .val (.ref a716), .val (.int (1 : Int32)), .unset] [(.ref a784), (.ref a784), (.ref a716)])) _
        refine XS.dconst0 X777.here hx rfl (hb hby at_130) rfl ?_
        show Steps p.tables e below (T775.setTop (mkF m 131 #[.val (.int lr), .val (.int la), .val (.int nr), .val (.int fl), .val (.double (FP.i2d (own_len lr))), .second, .val (.int (own_n nr)), .val (.int (fl &&& (3 : Int32))), .val (.int rv), .val (.int lane), .val (.ref a716), .val (.int (1 : Int32)), .unset] [(.double FP.dconst0), (.ref a784), (.ref a784), (.ref a716)])) _
        refine XS.dload X777.here hx rfl (hb hby at_131) rfl ?_
        show Steps p.tables e below (T775.setTop (mkF m 133 #[.val (.int lr), .val (.int la), .val (.int nr), .val (.int fl), .val (.double (FP.i2d (own_len lr))), .second, .val (.int (own_n nr)), .val (.int (fl &&& (3 : Int32))), .val (.int rv), .val (.int lane), .val (.ref a716), .val (.int (1 : Int32)), .unset] [(.double (FP.i2d (own_len lr))), (.double FP.dconst0), (.ref a784), (.ref a784), (.ref a716)])) _
        exact hh)
      obtain ⟨_, _, ⟨T796, L797, k_798, n_799⟩, -, X800, hSc807, hgr808, ⟨Lc801, hQ802, l_803, y_804, z_805⟩, st806⟩ := X777.specialBackS hx (y := (⟨"com/example/ample_gap/amplegap/simulation/OnRamp", "<init>", "(DD)V"⟩ : MethodName)) rfl hown742 (mvT hZ741 (wT hw 66 rfl)) (mvT hZ741 (wT hw 67 rfl)) (mvT hZ741 (wT hw 68 rfl)) (by decide) (backOfS (W := 2) (rmO l Z a0 hw [] a784 FP.dconst0 (FP.i2d (own_len lr)) h776 n0 Z793 A780 G786 F794 F795 (own_z_fin).noNaN (own_fin_le own_z_fin) own_z_nneg (own_no _) (own_fin_le (i2d_fin _)) (own_gt0 (own_len_rng lr).1)) hZ741 (wT hw 68 rfl) (wT hw 65 rfl) (by decide) (by decide)) (g := (mkF m 133 #[.val (.int lr), .val (.int la), .val (.int nr), .val (.int fl), .val (.double (FP.i2d (own_len lr))), .second, .val (.int (own_n nr)), .val (.int (fl &&& (3 : Int32))), .val (.int rv), .val (.int lane), .val (.ref a716), .val (.int (1 : Int32)), .unset] [(.double (FP.i2d (own_len lr))), (.double FP.dconst0), (.ref a784), (.ref a784), (.ref a716)])) rfl (by rw [hml]; rfl) (Steps.refl _) (a := a784) (argsL := [(.double FP.dconst0), (.double (FP.i2d (own_len lr)))]) (rest := [(.ref a784), (.ref a716)]) (lenOf own_h21 rfl) rfl (by show 2 * 0 + _ ≤ _; exact Nat.le_of_eq rfl) (hb hby at_133) (fun _ _ => ⟨rfl, e778, (by decide : 4 + 4 ≤ _), (by decide : 54 + 104 ≤ _)⟩)
      dsimp only [Pt.U, Pt.locs, Pt.cells, Pt.slots] at X800 hSc807 hgr808 l_803 y_804 z_805 st806 hQ802
      subst l_803 y_804 z_805
      obtain ⟨X810, hS811, hZ812, hown813⟩ := rebS hS740 (by rw [e778]; exact hk787) X800 hSc807 hgr808 hZ741 hown742
      obtain ⟨rfl, N814, K815, E816, F817⟩ := hQ802
      have N818 := Fr.app N750 N814
      have F819 := F788.keep K815
      have ne821 : a716 ≠ a784 := by rw [g785]; exact Nat.ne_of_lt E745.lt
      have F820 := F789.keep K815 (ninS ne821 nin0)
      have F822 := F790.keep K815 (ninS ne821 nin0)
      have F823 := F791.keep K815 (ninS ne821 nin0)
      have F824 := F792.keep K815 (ninS ne821 nin0)
      have F825 := A780.keep K815
      have Z826 : n0 ≤ T796.heap.size := Nat.le_trans Z793 K815.1
      have hk827 := Nat.le_trans hk787 (show h776.size ≤ T796.heap.size from K815.1)
      have e828 : T796.heap = T796.heap := rfl
      have k37 : own_K p e below (T796.setTop (mkF m 136 #[.val (.int lr), .val (.int la), .val (.int nr), .val (.int fl), .val (.double (FP.i2d (own_len lr))), .second, .val (.int (own_n nr)), .val (.int (fl &&& (3 : Int32))), .val (.int rv), .val (.int lane), .val (.ref a716), .val (.int (1 : Int32)), .unset] [(.ref a784), (.ref a716)])) (s₁.setTop (entryFrame m #[(.int lr), (.int la), (.int nr), (.int fl)] maxLocals)) := fun t hh => k36 t (st806.trans hh)
      obtain ⟨cq840, kq841, qa842, qb843, qc844⟩ := isOf hZ812 e828 F819
      obtain ⟨_, _, ⟨T829, L830, k_831, n_832⟩, -, X833, hSc845, hgr846, ⟨Lc834, hQ835, l_836, y_837, z_838⟩, st839⟩ := X810.virtualBackS hx (y := (⟨"com/example/ample_gap/amplegap/simulation/Road", "withOnRamp", "(Lcom/example/ample_gap/amplegap/simulation/OnRamp;)Lcom/example/ample_gap/amplegap/simulation/Road;"⟩ : MethodName)) (z := (⟨"com/example/ample_gap/amplegap/simulation/Road", "withOnRamp", "(Lcom/example/ample_gap/amplegap/simulation/OnRamp;)Lcom/example/ample_gap/amplegap/simulation/Road;"⟩ : MethodName)) hown813 (mvT hZ812 (wT hw 80 rfl)) (mvT hZ812 (wT hw 81 rfl)) (notFace_of_selects (args := #[]) (mvT hZ812 (wT hw 83 rfl))) (mvT hZ812 (wT hw 83 rfl)) (mvT hZ812 (wT hw 82 rfl)) (by decide) (backOfS (W := 0) (rmW l Z a0 hw [] a716 a784 (FP.i2d (own_len lr)) (FP.i2d (own_len lr)) (1 : Int32) T796.heap n0 Z826 F819 E816 F820 F822 F823 F817 (own_le _)) hZ812 (wT hw 84 rfl) (wT hw 3 rfl) (by decide) (by decide)) qa842 qc844 (g := (mkF m 136 #[.val (.int lr), .val (.int la), .val (.int nr), .val (.int fl), .val (.double (FP.i2d (own_len lr))), .second, .val (.int (own_n nr)), .val (.int (fl &&& (3 : Int32))), .val (.int rv), .val (.int lane), .val (.ref a716), .val (.int (1 : Int32)), .unset] [(.ref a784), (.ref a716)])) rfl (by rw [hml]; rfl) (Steps.refl _) (argsL := [(.ref a784)]) (rest := []) (lenOf own_h22 rfl) rfl (by show 2 * 0 + _ ≤ _; exact Nat.le_of_eq rfl) (hb hby at_136) (fun _ _ => ⟨rfl, e828, (by decide : 8 + 3 ≤ _), (by decide : 158 + 24 ≤ _)⟩)
      dsimp only [Pt.U, Pt.locs, Pt.cells, Pt.slots] at X833 hSc845 hgr846 l_836 y_837 z_838 st839 hQ835
      subst l_836 y_837 z_838
      obtain ⟨X848, hS849, hZ850, hown851⟩ := rebS hS811 (by rw [e828]; exact (Nat.le_refl T796.heap.size)) X833 hSc845 hgr846 hZ812 hown813
      obtain ⟨b852, rfl, N853, K854, G855, E856, F857, F858⟩ := hQ835
      have N859 := Fr.app N818 N853
      have F860 := F819.keep K854
      have F861 := F820.keep K854 nin0
      have F862 := F822.keep K854 nin0
      have F863 := F823.keep K854 nin0
      have F864 := F824.keep K854 nin0
      have F865 := E816.keep K854
      have F866 := F817.keep K854 nin0
      have Z867 : n0 ≤ T829.heap.size := Nat.le_trans Z826 K854.1
      have hk868 := Nat.le_trans (Nat.le_refl T796.heap.size) (show T796.heap.size ≤ T829.heap.size from K854.1)
      have e869 : T829.heap = T829.heap := rfl
      have k38 : own_K p e below (T829.setTop (mkF m 139 #[.val (.int lr), .val (.int la), .val (.int nr), .val (.int fl), .val (.double (FP.i2d (own_len lr))), .second, .val (.int (own_n nr)), .val (.int (fl &&& (3 : Int32))), .val (.int rv), .val (.int lane), .val (.ref a716), .val (.int (1 : Int32)), .unset] [(.ref b852)])) (s₁.setTop (entryFrame m #[(.int lr), (.int la), (.int nr), (.int fl)] maxLocals)) := fun t hh => k37 t (st839.trans hh)
      have k39 : own_K p e below (T829.setTop (mkF m 141 #[.val (.int lr), .val (.int la), .val (.int nr), .val (.int fl), .val (.double (FP.i2d (own_len lr))), .second, .val (.int (own_n nr)), .val (.int (fl &&& (3 : Int32))), .val (.int rv), .val (.int lane), .val (.ref b852), .val (.int (1 : Int32)), .unset] [])) (s₁.setTop (entryFrame m #[(.int lr), (.int la), (.int nr), (.int fl)] maxLocals)) := fun t hh => k38 t (by
        refine XS.astore X848.here hx rfl (hb hby at_139) rfl rfl (l' := #[.val (.int lr), .val (.int la), .val (.int nr), .val (.int fl), .val (.double (FP.i2d (own_len lr))), .second, .val (.int (own_n nr)), .val (.int (fl &&& (3 : Int32))), .val (.int rv), .val (.int lane), .val (.ref b852), .val (.int (1 : Int32)), .unset]) rfl ?_
        show Steps p.tables e below (T829.setTop (mkF m 141 #[.val (.int lr), .val (.int la), .val (.int nr), .val (.int fl), .val (.double (FP.i2d (own_len lr))), .second, .val (.int (own_n nr)), .val (.int (fl &&& (3 : Int32))), .val (.int rv), .val (.int lane), .val (.ref b852), .val (.int (1 : Int32)), .unset] [])) _
        exact hh)
      obtain ⟨ex, hM870, k40⟩ : ∃ ex : Int32, (ex = own_ex lane rv (1 : Int32)) ∧ own_K p e below (T829.setTop (mkF m 178 #[.val (.int lr), .val (.int la), .val (.int nr), .val (.int fl), .val (.double (FP.i2d (own_len lr))), .second, .val (.int (own_n nr)), .val (.int (fl &&& (3 : Int32))), .val (.int rv), .val (.int lane), .val (.ref b852), .val (.int (1 : Int32)), .val (.int ex)] [])) (s₁.setTop (entryFrame m #[(.int lr), (.int la), (.int nr), (.int fl)] maxLocals)) := by
        have k41 : own_K p e below (T829.setTop (mkF m 143 #[.val (.int lr), .val (.int la), .val (.int nr), .val (.int fl), .val (.double (FP.i2d (own_len lr))), .second, .val (.int (own_n nr)), .val (.int (fl &&& (3 : Int32))), .val (.int rv), .val (.int lane), .val (.ref b852), .val (.int (1 : Int32)), .unset] [(.int lane)])) (s₁.setTop (entryFrame m #[(.int lr), (.int la), (.int nr), (.int fl)] maxLocals)) := fun t hh => k39 t (by
          refine XS.iload X848.here hx rfl (hb hby at_141) rfl ?_
          show Steps p.tables e below (T829.setTop (mkF m 143 #[.val (.int lr), .val (.int la), .val (.int nr), .val (.int fl), .val (.double (FP.i2d (own_len lr))), .second, .val (.int (own_n nr)), .val (.int (fl &&& (3 : Int32))), .val (.int rv), .val (.int lane), .val (.ref b852), .val (.int (1 : Int32)), .unset] [(.int lane)])) _
          exact hh)
        by_cases c143 : lane < 0
        ·
          have k42 : own_K p e below (T829.setTop (mkF m 178 #[.val (.int lr), .val (.int la), .val (.int nr), .val (.int fl), .val (.double (FP.i2d (own_len lr))), .second, .val (.int (own_n nr)), .val (.int (fl &&& (3 : Int32))), .val (.int rv), .val (.int lane), .val (.ref b852), .val (.int (1 : Int32)), .val (.int (0 : Int32))] [])) (s₁.setTop (entryFrame m #[(.int lr), (.int la), (.int nr), (.int fl)] maxLocals)) := fun t hh => k41 t (by
            refine XS.ifNo X848.here hx rfl (hb hby at_143) rfl (own_ifF_ge c143) ?_
            show Steps p.tables e below (T829.setTop (mkF m 146 #[.val (.int lr), .val (.int la), .val (.int nr), .val (.int fl), .val (.double (FP.i2d (own_len lr))), .second, .val (.int (own_n nr)), .val (.int (fl &&& (3 : Int32))), .val (.int rv), .val (.int lane), .val (.ref b852), .val (.int (1 : Int32)), .unset] [])) _
            refine XS.iconst X848.here hx rfl (hb hby at_146) ?_
            show Steps p.tables e below (T829.setTop (mkF m 147 #[.val (.int lr), .val (.int la), .val (.int nr), .val (.int fl), .val (.double (FP.i2d (own_len lr))), .second, .val (.int (own_n nr)), .val (.int (fl &&& (3 : Int32))), .val (.int rv), .val (.int lane), .val (.ref b852), .val (.int (1 : Int32)), .unset] [(.int (0 : Int32))])) _
            refine XS.istore X848.here hx rfl (hb hby at_147) rfl (l' := #[.val (.int lr), .val (.int la), .val (.int nr), .val (.int fl), .val (.double (FP.i2d (own_len lr))), .second, .val (.int (own_n nr)), .val (.int (fl &&& (3 : Int32))), .val (.int rv), .val (.int lane), .val (.ref b852), .val (.int (1 : Int32)), .val (.int (0 : Int32))]) rfl ?_
            show Steps p.tables e below (T829.setTop (mkF m 149 #[.val (.int lr), .val (.int la), .val (.int nr), .val (.int fl), .val (.double (FP.i2d (own_len lr))), .second, .val (.int (own_n nr)), .val (.int (fl &&& (3 : Int32))), .val (.int rv), .val (.int lane), .val (.ref b852), .val (.int (1 : Int32)), .val (.int (0 : Int32))] [])) _
            refine XS.goto X848.here hx rfl (pc0 := 149) (pc' := 178) rfl (hb hby at_149) (by decide) (by decide) ?_
            show Steps p.tables e below (T829.setTop (mkF m 178 #[.val (.int lr), .val (.int la), .val (.int nr), .val (.int fl), .val (.double (FP.i2d (own_len lr))), .second, .val (.int (own_n nr)), .val (.int (fl &&& (3 : Int32))), .val (.int rv), .val (.int lane), .val (.ref b852), .val (.int (1 : Int32)), .val (.int (0 : Int32))] [])) _
            exact hh)
          exact ⟨(0 : Int32), (by first | (simp only [own_ex, c143, if_true, if_false]; done) | (simp [own_ex, c143]; done)), k42⟩
        ·
          have k43 : own_K p e below (T829.setTop (mkF m 154 #[.val (.int lr), .val (.int la), .val (.int nr), .val (.int fl), .val (.double (FP.i2d (own_len lr))), .second, .val (.int (own_n nr)), .val (.int (fl &&& (3 : Int32))), .val (.int rv), .val (.int lane), .val (.ref b852), .val (.int (1 : Int32)), .unset] [(.int lane)])) (s₁.setTop (entryFrame m #[(.int lr), (.int la), (.int nr), (.int fl)] maxLocals)) := fun t hh => k41 t (by
            refine XS.ifYes X848.here hx rfl (pc0 := 143) (pc' := 152) rfl (hb hby at_143) rfl (own_ifT_ge c143) (by decide) (by decide) ?_
            show Steps p.tables e below (T829.setTop (mkF m 152 #[.val (.int lr), .val (.int la), .val (.int nr), .val (.int fl), .val (.double (FP.i2d (own_len lr))), .second, .val (.int (own_n nr)), .val (.int (fl &&& (3 : Int32))), .val (.int rv), .val (.int lane), .val (.ref b852), .val (.int (1 : Int32)), .unset] [])) _
            refine XS.iload X848.here hx rfl (hb hby at_152) rfl ?_
            show Steps p.tables e below (T829.setTop (mkF m 154 #[.val (.int lr), .val (.int la), .val (.int nr), .val (.int fl), .val (.double (FP.i2d (own_len lr))), .second, .val (.int (own_n nr)), .val (.int (fl &&& (3 : Int32))), .val (.int rv), .val (.int lane), .val (.ref b852), .val (.int (1 : Int32)), .unset] [(.int lane)])) _
            exact hh)
          by_cases c154 : lane = 0
          ·
            have k44 : own_K p e below (T829.setTop (mkF m 178 #[.val (.int lr), .val (.int la), .val (.int nr), .val (.int fl), .val (.double (FP.i2d (own_len lr))), .second, .val (.int (own_n nr)), .val (.int (fl &&& (3 : Int32))), .val (.int rv), .val (.int lane), .val (.ref b852), .val (.int (1 : Int32)), .val (.int rv)] [])) (s₁.setTop (entryFrame m #[(.int lr), (.int la), (.int nr), (.int fl)] maxLocals)) := fun t hh => k43 t (by
              refine XS.ifNo X848.here hx rfl (hb hby at_154) rfl (own_ifF_ne c154) ?_
              show Steps p.tables e below (T829.setTop (mkF m 157 #[.val (.int lr), .val (.int la), .val (.int nr), .val (.int fl), .val (.double (FP.i2d (own_len lr))), .second, .val (.int (own_n nr)), .val (.int (fl &&& (3 : Int32))), .val (.int rv), .val (.int lane), .val (.ref b852), .val (.int (1 : Int32)), .unset] [])) _
              refine XS.iload X848.here hx rfl (hb hby at_157) rfl ?_
              show Steps p.tables e below (T829.setTop (mkF m 159 #[.val (.int lr), .val (.int la), .val (.int nr), .val (.int fl), .val (.double (FP.i2d (own_len lr))), .second, .val (.int (own_n nr)), .val (.int (fl &&& (3 : Int32))), .val (.int rv), .val (.int lane), .val (.ref b852), .val (.int (1 : Int32)), .unset] [(.int rv)])) _
              refine XS.istore X848.here hx rfl (hb hby at_159) rfl (l' := #[.val (.int lr), .val (.int la), .val (.int nr), .val (.int fl), .val (.double (FP.i2d (own_len lr))), .second, .val (.int (own_n nr)), .val (.int (fl &&& (3 : Int32))), .val (.int rv), .val (.int lane), .val (.ref b852), .val (.int (1 : Int32)), .val (.int rv)]) rfl ?_
              show Steps p.tables e below (T829.setTop (mkF m 161 #[.val (.int lr), .val (.int la), .val (.int nr), .val (.int fl), .val (.double (FP.i2d (own_len lr))), .second, .val (.int (own_n nr)), .val (.int (fl &&& (3 : Int32))), .val (.int rv), .val (.int lane), .val (.ref b852), .val (.int (1 : Int32)), .val (.int rv)] [])) _
              refine XS.goto X848.here hx rfl (pc0 := 161) (pc' := 178) rfl (hb hby at_161) (by decide) (by decide) ?_
              show Steps p.tables e below (T829.setTop (mkF m 178 #[.val (.int lr), .val (.int la), .val (.int nr), .val (.int fl), .val (.double (FP.i2d (own_len lr))), .second, .val (.int (own_n nr)), .val (.int (fl &&& (3 : Int32))), .val (.int rv), .val (.int lane), .val (.ref b852), .val (.int (1 : Int32)), .val (.int rv)] [])) _
              exact hh)
            exact ⟨rv, (by first | (simp only [own_ex, c143, c154, if_true, if_false]; done) | (simp [own_ex, c143, c154]; done)), k44⟩
          ·
            have k45 : own_K p e below (T829.setTop (mkF m 168 #[.val (.int lr), .val (.int la), .val (.int nr), .val (.int fl), .val (.double (FP.i2d (own_len lr))), .second, .val (.int (own_n nr)), .val (.int (fl &&& (3 : Int32))), .val (.int rv), .val (.int lane), .val (.ref b852), .val (.int (1 : Int32)), .unset] [(.int (1 : Int32)), (.int lane)])) (s₁.setTop (entryFrame m #[(.int lr), (.int la), (.int nr), (.int fl)] maxLocals)) := fun t hh => k43 t (by
              refine XS.ifYes X848.here hx rfl (pc0 := 154) (pc' := 164) rfl (hb hby at_154) rfl (own_ifT_ne c154) (by decide) (by decide) ?_
              show Steps p.tables e below (T829.setTop (mkF m 164 #[.val (.int lr), .val (.int la), .val (.int nr), .val (.int fl), .val (.double (FP.i2d (own_len lr))), .second, .val (.int (own_n nr)), .val (.int (fl &&& (3 : Int32))), .val (.int rv), .val (.int lane), .val (.ref b852), .val (.int (1 : Int32)), .unset] [])) _
              refine XS.iload X848.here hx rfl (hb hby at_164) rfl ?_
              show Steps p.tables e below (T829.setTop (mkF m 166 #[.val (.int lr), .val (.int la), .val (.int nr), .val (.int fl), .val (.double (FP.i2d (own_len lr))), .second, .val (.int (own_n nr)), .val (.int (fl &&& (3 : Int32))), .val (.int rv), .val (.int lane), .val (.ref b852), .val (.int (1 : Int32)), .unset] [(.int lane)])) _
              refine XS.iload X848.here hx rfl (hb hby at_166) rfl ?_
              show Steps p.tables e below (T829.setTop (mkF m 168 #[.val (.int lr), .val (.int la), .val (.int nr), .val (.int fl), .val (.double (FP.i2d (own_len lr))), .second, .val (.int (own_n nr)), .val (.int (fl &&& (3 : Int32))), .val (.int rv), .val (.int lane), .val (.ref b852), .val (.int (1 : Int32)), .unset] [(.int (1 : Int32)), (.int lane)])) _
              exact hh)
            by_cases c168 : (1 : Int32) < lane
            ·
              have k46 : own_K p e below (T829.setTop (mkF m 178 #[.val (.int lr), .val (.int la), .val (.int nr), .val (.int fl), .val (.double (FP.i2d (own_len lr))), .second, .val (.int (own_n nr)), .val (.int (fl &&& (3 : Int32))), .val (.int rv), .val (.int lane), .val (.ref b852), .val (.int (1 : Int32)), .val (.int (0 : Int32))] [])) (s₁.setTop (entryFrame m #[(.int lr), (.int la), (.int nr), (.int fl)] maxLocals)) := fun t hh => k45 t (by
                refine XS.icmpYes X848.here hx rfl (pc0 := 168) (pc' := 175) rfl (hb hby at_168) rfl (own_icT_gt c168) (by decide) (by decide) ?_
                show Steps p.tables e below (T829.setTop (mkF m 175 #[.val (.int lr), .val (.int la), .val (.int nr), .val (.int fl), .val (.double (FP.i2d (own_len lr))), .second, .val (.int (own_n nr)), .val (.int (fl &&& (3 : Int32))), .val (.int rv), .val (.int lane), .val (.ref b852), .val (.int (1 : Int32)), .unset] [])) _
                refine XS.iconst X848.here hx rfl (hb hby at_175) ?_
                show Steps p.tables e below (T829.setTop (mkF m 176 #[.val (.int lr), .val (.int la), .val (.int nr), .val (.int fl), .val (.double (FP.i2d (own_len lr))), .second, .val (.int (own_n nr)), .val (.int (fl &&& (3 : Int32))), .val (.int rv), .val (.int lane), .val (.ref b852), .val (.int (1 : Int32)), .unset] [(.int (0 : Int32))])) _
                refine XS.istore X848.here hx rfl (hb hby at_176) rfl (l' := #[.val (.int lr), .val (.int la), .val (.int nr), .val (.int fl), .val (.double (FP.i2d (own_len lr))), .second, .val (.int (own_n nr)), .val (.int (fl &&& (3 : Int32))), .val (.int rv), .val (.int lane), .val (.ref b852), .val (.int (1 : Int32)), .val (.int (0 : Int32))]) rfl ?_
                show Steps p.tables e below (T829.setTop (mkF m 178 #[.val (.int lr), .val (.int la), .val (.int nr), .val (.int fl), .val (.double (FP.i2d (own_len lr))), .second, .val (.int (own_n nr)), .val (.int (fl &&& (3 : Int32))), .val (.int rv), .val (.int lane), .val (.ref b852), .val (.int (1 : Int32)), .val (.int (0 : Int32))] [])) _
                exact hh)
              exact ⟨(0 : Int32), (by first | (simp only [own_ex, c143, c154, c168, if_true, if_false]; done) | (simp [own_ex, c143, c154, c168]; done)), k46⟩
            ·
              have k47 : own_K p e below (T829.setTop (mkF m 178 #[.val (.int lr), .val (.int la), .val (.int nr), .val (.int fl), .val (.double (FP.i2d (own_len lr))), .second, .val (.int (own_n nr)), .val (.int (fl &&& (3 : Int32))), .val (.int rv), .val (.int lane), .val (.ref b852), .val (.int (1 : Int32)), .val (.int (1 : Int32))] [])) (s₁.setTop (entryFrame m #[(.int lr), (.int la), (.int nr), (.int fl)] maxLocals)) := fun t hh => k45 t (by
                refine XS.icmpNo X848.here hx rfl (hb hby at_168) rfl (own_icF_gt c168) ?_
                show Steps p.tables e below (T829.setTop (mkF m 171 #[.val (.int lr), .val (.int la), .val (.int nr), .val (.int fl), .val (.double (FP.i2d (own_len lr))), .second, .val (.int (own_n nr)), .val (.int (fl &&& (3 : Int32))), .val (.int rv), .val (.int lane), .val (.ref b852), .val (.int (1 : Int32)), .unset] [])) _
                refine XS.iconst X848.here hx rfl (hb hby at_171) ?_
                show Steps p.tables e below (T829.setTop (mkF m 172 #[.val (.int lr), .val (.int la), .val (.int nr), .val (.int fl), .val (.double (FP.i2d (own_len lr))), .second, .val (.int (own_n nr)), .val (.int (fl &&& (3 : Int32))), .val (.int rv), .val (.int lane), .val (.ref b852), .val (.int (1 : Int32)), .unset] [(.int (1 : Int32))])) _
                refine XS.goto X848.here hx rfl (pc0 := 172) (pc' := 176) rfl (hb hby at_172) (by decide) (by decide) ?_
                show Steps p.tables e below (T829.setTop (mkF m 176 #[.val (.int lr), .val (.int la), .val (.int nr), .val (.int fl), .val (.double (FP.i2d (own_len lr))), .second, .val (.int (own_n nr)), .val (.int (fl &&& (3 : Int32))), .val (.int rv), .val (.int lane), .val (.ref b852), .val (.int (1 : Int32)), .unset] [(.int (1 : Int32))])) _
                refine XS.istore X848.here hx rfl (hb hby at_176) rfl (l' := #[.val (.int lr), .val (.int la), .val (.int nr), .val (.int fl), .val (.double (FP.i2d (own_len lr))), .second, .val (.int (own_n nr)), .val (.int (fl &&& (3 : Int32))), .val (.int rv), .val (.int lane), .val (.ref b852), .val (.int (1 : Int32)), .val (.int (1 : Int32))]) rfl ?_
                show Steps p.tables e below (T829.setTop (mkF m 178 #[.val (.int lr), .val (.int la), .val (.int nr), .val (.int fl), .val (.double (FP.i2d (own_len lr))), .second, .val (.int (own_n nr)), .val (.int (fl &&& (3 : Int32))), .val (.int rv), .val (.int lane), .val (.ref b852), .val (.int (1 : Int32)), .val (.int (1 : Int32))] [])) _
                exact hh)
              exact ⟨(1 : Int32), (by first | (simp only [own_ex, c143, c154, c168, if_true, if_false]; done) | (simp [own_ex, c143, c154, c168]; done)), k47⟩
      have k48 : own_K p e below (T829.setTop (mkF m 182 #[.val (.int lr), .val (.int la), .val (.int nr), .val (.int fl), .val (.double (FP.i2d (own_len lr))), .second, .val (.int (own_n nr)), .val (.int (fl &&& (3 : Int32))), .val (.int rv), .val (.int lane), .val (.ref b852), .val (.int (1 : Int32)), .val (.int ex)] [(.int lane), (.ref b852)])) (s₁.setTop (entryFrame m #[(.int lr), (.int la), (.int nr), (.int fl)] maxLocals)) := fun t hh => k40 t (by
        refine XS.aload X848.here hx rfl (hb hby at_178) rfl rfl ?_
        show Steps p.tables e below (T829.setTop (mkF m 180 #[.val (.int lr), .val (.int la), .val (.int nr), .val (.int fl), .val (.double (FP.i2d (own_len lr))), .second, .val (.int (own_n nr)), .val (.int (fl &&& (3 : Int32))), .val (.int rv), .val (.int lane), .val (.ref b852), .val (.int (1 : Int32)), .val (.int ex)] [(.ref b852)])) _
        refine XS.iload X848.here hx rfl (hb hby at_180) rfl ?_
        show Steps p.tables e below (T829.setTop (mkF m 182 #[.val (.int lr), .val (.int la), .val (.int nr), .val (.int fl), .val (.double (FP.i2d (own_len lr))), .second, .val (.int (own_n nr)), .val (.int (fl &&& (3 : Int32))), .val (.int rv), .val (.int lane), .val (.ref b852), .val (.int (1 : Int32)), .val (.int ex)] [(.int lane), (.ref b852)])) _
        exact hh)
      obtain ⟨cq882, kq883, qa884, qb885, qc886⟩ := isOf hZ850 e869 E856
      obtain ⟨_, _, ⟨T871, L872, k_873, n_874⟩, -, X875, ⟨Lc876, hQ877, l_878, y_879, z_880⟩, st881⟩ := X848.virtualBack hx (y := (⟨"com/example/ample_gap/amplegap/simulation/Road", "hasLane", "(I)Z"⟩ : MethodName)) (z := (⟨"com/example/ample_gap/amplegap/simulation/Road", "hasLane", "(I)Z"⟩ : MethodName)) hown851 (mvT hZ850 (wT hw 45 rfl)) (mvT hZ850 (wT hw 46 rfl)) (notFace_of_selects (args := #[]) (mvT hZ850 (wT hw 48 rfl))) (mvT hZ850 (wT hw 48 rfl)) (mvT hZ850 (wT hw 47 rfl)) (by decide) (backOf (W := 0) (rmH0 l Z a0 hw [] b852 a784 lane (1 : Int32) T829.heap n0 Z867 E856 F858 F857) hZ850 (wT hw 49 rfl) (wT hw 3 rfl) (by decide) (by decide)) qa884 qc886 (g := (mkF m 182 #[.val (.int lr), .val (.int la), .val (.int nr), .val (.int fl), .val (.double (FP.i2d (own_len lr))), .second, .val (.int (own_n nr)), .val (.int (fl &&& (3 : Int32))), .val (.int rv), .val (.int lane), .val (.ref b852), .val (.int (1 : Int32)), .val (.int ex)] [(.int lane), (.ref b852)])) rfl (by rw [hml]; rfl) (Steps.refl _) (argsL := [(.int lane)]) (rest := []) (lenOf own_h17 rfl) rfl (by show 2 * 0 + _ ≤ _; exact Nat.le_of_eq rfl) (hb hby at_182) (fun _ _ => ⟨rfl, e869, (by decide : 11 + 0 ≤ _), (by decide : 182 + 0 ≤ _)⟩)
      dsimp only [Pt.U, Pt.locs, Pt.cells, Pt.slots] at X875 l_878 y_879 z_880 st881 hQ877
      subst l_878 y_879 z_880
      obtain ⟨rfl, N887, e888⟩ := hQ877
      have N889 := Fr.app N859 N887
      have k49 : own_K p e below (T871.setTop (mkF m 185 #[.val (.int lr), .val (.int la), .val (.int nr), .val (.int fl), .val (.double (FP.i2d (own_len lr))), .second, .val (.int (own_n nr)), .val (.int (fl &&& (3 : Int32))), .val (.int rv), .val (.int lane), .val (.ref b852), .val (.int (1 : Int32)), .val (.int ex)] [(.int (own_hl lane (0 : Int32) (1 : Int32)))])) (s₁.setTop (entryFrame m #[(.int lr), (.int la), (.int nr), (.int fl)] maxLocals)) := fun t hh => k48 t (st881.trans hh)
      have k50 : own_K p e below (T871.setTop (mkF m 195 #[.val (.int lr), .val (.int la), .val (.int nr), .val (.int fl), .val (.double (FP.i2d (own_len lr))), .second, .val (.int (own_n nr)), .val (.int (fl &&& (3 : Int32))), .val (.int rv), .val (.int lane), .val (.ref b852), .val (.int (1 : Int32)), .val (.int ex)] [(.int (1 : Int32))])) (s₁.setTop (entryFrame m #[(.int lr), (.int la), (.int nr), (.int fl)] maxLocals)) := fun t hh => k49 t (by
        refine XS.iload X875.here hx rfl (hb hby at_185) rfl ?_
        show Steps p.tables e below (T871.setTop (mkF m 187 #[.val (.int lr), .val (.int la), .val (.int nr), .val (.int fl), .val (.double (FP.i2d (own_len lr))), .second, .val (.int (own_n nr)), .val (.int (fl &&& (3 : Int32))), .val (.int rv), .val (.int lane), .val (.ref b852), .val (.int (1 : Int32)), .val (.int ex)] [(.int ex), (.int (own_hl lane (0 : Int32) (1 : Int32)))])) _
        refine XS.icmpNo X875.here hx rfl (hb hby at_187) rfl (own_icF_ne ((own_same1 lane (1 : Int32) (by decide)).trans (by rw [hM870, (hM705.resolve_left c121).1]))) ?_
        show Steps p.tables e below (T871.setTop (mkF m 190 #[.val (.int lr), .val (.int la), .val (.int nr), .val (.int fl), .val (.double (FP.i2d (own_len lr))), .second, .val (.int (own_n nr)), .val (.int (fl &&& (3 : Int32))), .val (.int rv), .val (.int lane), .val (.ref b852), .val (.int (1 : Int32)), .val (.int ex)] [])) _
        refine XS.iconst X875.here hx rfl (hb hby at_190) ?_
        show Steps p.tables e below (T871.setTop (mkF m 191 #[.val (.int lr), .val (.int la), .val (.int nr), .val (.int fl), .val (.double (FP.i2d (own_len lr))), .second, .val (.int (own_n nr)), .val (.int (fl &&& (3 : Int32))), .val (.int rv), .val (.int lane), .val (.ref b852), .val (.int (1 : Int32)), .val (.int ex)] [(.int (1 : Int32))])) _
        refine XS.goto X875.here hx rfl (pc0 := 191) (pc' := 195) rfl (hb hby at_191) (by decide) (by decide) ?_
        show Steps p.tables e below (T871.setTop (mkF m 195 #[.val (.int lr), .val (.int la), .val (.int nr), .val (.int fl), .val (.double (FP.i2d (own_len lr))), .second, .val (.int (own_n nr)), .val (.int (fl &&& (3 : Int32))), .val (.int rv), .val (.int lane), .val (.ref b852), .val (.int (1 : Int32)), .val (.int ex)] [(.int (1 : Int32))])) _
        exact hh)
      obtain ⟨fs, hr, hrun, hended, hEnd⟩ := X875.leaveW hS849 (by rw [e888]; exact (Nat.le_refl T829.heap.size)) (v := some (.int (1 : Int32))) (fun h => by rw [Bd.returns] at h; cases h)
      refine ⟨_, _, k50 _ (retN X875 hx (t := .boolean) Bd.returns (by simp) (hb hby at_195) hr), hrun, hended, _, _, rfl, ?_, hEnd.1, hEnd.2.1, hEnd.2.2.1, hEnd.2.2.2.mono (by decide) (by decide)⟩
      show QL h0 n0 _ T871.heap _
      rw [e888]
      exact ⟨rfl, N889⟩
  ·
    have k51 : own_K p e below (s₁.setTop (mkF m 83 #[.val (.int lr), .val (.int la), .val (.int nr), .val (.int fl), .val (.double (FP.i2d (own_len lr))), .second, .val (.int (own_n nr)), .val (.int (fl &&& (3 : Int32))), .val (.int rv), .val (.int lane), .unset, .unset, .unset] [(.int (1 : Int32)), (.int (fl &&& (3 : Int32)))])) (s₁.setTop (entryFrame m #[(.int lr), (.int la), (.int nr), (.int fl)] maxLocals)) := fun t hh => k16 t (by
      refine XS.ifYes X0.here hx rfl (pc0 := 60) (pc' := 80) rfl (hb hby at_60) rfl (own_ifT_ne c60) (by decide) (by decide) ?_
      show Steps p.tables e below (s₁.setTop (mkF m 80 #[.val (.int lr), .val (.int la), .val (.int nr), .val (.int fl), .val (.double (FP.i2d (own_len lr))), .second, .val (.int (own_n nr)), .val (.int (fl &&& (3 : Int32))), .val (.int rv), .val (.int lane), .unset, .unset, .unset] [])) _
      refine XS.iload X0.here hx rfl (hb hby at_80) rfl ?_
      show Steps p.tables e below (s₁.setTop (mkF m 82 #[.val (.int lr), .val (.int la), .val (.int nr), .val (.int fl), .val (.double (FP.i2d (own_len lr))), .second, .val (.int (own_n nr)), .val (.int (fl &&& (3 : Int32))), .val (.int rv), .val (.int lane), .unset, .unset, .unset] [(.int (fl &&& (3 : Int32)))])) _
      refine XS.iconst X0.here hx rfl (hb hby at_82) ?_
      show Steps p.tables e below (s₁.setTop (mkF m 83 #[.val (.int lr), .val (.int la), .val (.int nr), .val (.int fl), .val (.double (FP.i2d (own_len lr))), .second, .val (.int (own_n nr)), .val (.int (fl &&& (3 : Int32))), .val (.int rv), .val (.int lane), .unset, .unset, .unset] [(.int (1 : Int32)), (.int (fl &&& (3 : Int32)))])) _
      exact hh)
    by_cases c83 : (fl &&& (3 : Int32)) = (1 : Int32)
    ·
      have k52 : own_K p e below (s₁.setTop (mkF m 86 #[.val (.int lr), .val (.int la), .val (.int nr), .val (.int fl), .val (.double (FP.i2d (own_len lr))), .second, .val (.int (own_n nr)), .val (.int (fl &&& (3 : Int32))), .val (.int rv), .val (.int lane), .unset, .unset, .unset] [])) (s₁.setTop (entryFrame m #[(.int lr), (.int la), (.int nr), (.int fl)] maxLocals)) := fun t hh => k51 t (by
        refine XS.icmpNo X0.here hx rfl (hb hby at_83) rfl (own_icF_ne c83) ?_
        show Steps p.tables e below (s₁.setTop (mkF m 86 #[.val (.int lr), .val (.int la), .val (.int nr), .val (.int fl), .val (.double (FP.i2d (own_len lr))), .second, .val (.int (own_n nr)), .val (.int (fl &&& (3 : Int32))), .val (.int rv), .val (.int lane), .unset, .unset, .unset] [])) _
        exact hh)
      obtain ⟨T890, h891, X892, e893, E894, A895, D896, U898, st897⟩ := newO X0 hx hZ hown (wT hw 1 rfl) (wT hw 2 rfl) (wT hw 3 rfl) e0 (g := (mkF m 86 #[.val (.int lr), .val (.int la), .val (.int nr), .val (.int fl), .val (.double (FP.i2d (own_len lr))), .second, .val (.int (own_n nr)), .val (.int (fl &&& (3 : Int32))), .val (.int rv), .val (.int lane), .unset, .unset, .unset] [])) rfl (hb hby at_86) (by decide) (by decide)
      obtain ⟨a899, g900⟩ : ∃ z, z = h0.size := ⟨_, rfl⟩
      rw [← g900] at A895 D896 U898 st897
      have G901 : n0 ≤ a899 := Nat.le_trans Z0 (Nat.le_of_eq g900.symm)
      have hk902 := Nat.le_trans hk0 (show h0.size ≤ h891.size from E894.1)
      have Z903 : n0 ≤ h891.size := Nat.le_trans Z0 E894.1
      have F904 : Fld Z h891 a899 "com/example/ample_gap/amplegap/simulation/Road" "length" "D" (.double (0 : UInt64)) := D896 (Or.inr (wT hw 38 rfl)) (ty := .double) (by decide)
      have F905 : Fld Z h891 a899 "com/example/ample_gap/amplegap/simulation/Road" "lanes" "I" (.int (0 : Int32)) := D896 (Or.inr (wT hw 40 rfl)) (ty := .int) (by decide)
      have F906 : Fld Z h891 a899 "com/example/ample_gap/amplegap/simulation/Road" "ring" "Z" (.int (0 : Int32)) := D896 (Or.inr (wT hw 42 rfl)) (ty := .boolean) (by decide)
      have F907 : Fld Z h891 a899 "com/example/ample_gap/amplegap/simulation/Road" "onRamp" "Lcom/example/ample_gap/amplegap/simulation/OnRamp;" .null := D896 (Or.inr (wT hw 44 rfl)) (ty := .object "com/example/ample_gap/amplegap/simulation/OnRamp") (by decide)
      have k53 : own_K p e below (T890.setTop (mkF m 89 #[.val (.int lr), .val (.int la), .val (.int nr), .val (.int fl), .val (.double (FP.i2d (own_len lr))), .second, .val (.int (own_n nr)), .val (.int (fl &&& (3 : Int32))), .val (.int rv), .val (.int lane), .unset, .unset, .unset] [(.ref a899)])) (s₁.setTop (entryFrame m #[(.int lr), (.int la), (.int nr), (.int fl)] maxLocals)) := fun t hh => k52 t (st897 t hh)
      have k54 : own_K p e below (T890.setTop (mkF m 94 #[.val (.int lr), .val (.int la), .val (.int nr), .val (.int fl), .val (.double (FP.i2d (own_len lr))), .second, .val (.int (own_n nr)), .val (.int (fl &&& (3 : Int32))), .val (.int rv), .val (.int lane), .unset, .unset, .unset] [(.int (own_n nr)), (.double (FP.i2d (own_len lr))), (.ref a899), (.ref a899)])) (s₁.setTop (entryFrame m #[(.int lr), (.int la), (.int nr), (.int fl)] maxLocals)) := fun t hh => k53 t (by
        refine XS.dup X892.here hx rfl (hb hby at_89) rfl rfl ?_
        show Steps p.tables e below (T890.setTop (mkF m 90 #[.val (.int lr), .val (.int la), .val (.int nr), .val (.int fl), .val (.double (FP.i2d (own_len lr))), .second, .val (.int (own_n nr)), .val (.int (fl &&& (3 : Int32))), .val (.int rv), .val (.int lane), .unset, .unset, .unset] [(.ref a899), (.ref a899)])) _
        refine XS.dload X892.here hx rfl (hb hby at_90) rfl ?_
        show Steps p.tables e below (T890.setTop (mkF m 92 #[.val (.int lr), .val (.int la), .val (.int nr), .val (.int fl), .val (.double (FP.i2d (own_len lr))), .second, .val (.int (own_n nr)), .val (.int (fl &&& (3 : Int32))), .val (.int rv), .val (.int lane), .unset, .unset, .unset] [(.double (FP.i2d (own_len lr))), (.ref a899), (.ref a899)])) _
        refine XS.iload X892.here hx rfl (hb hby at_92) rfl ?_
        show Steps p.tables e below (T890.setTop (mkF m 94 #[.val (.int lr), .val (.int la), .val (.int nr), .val (.int fl), .val (.double (FP.i2d (own_len lr))), .second, .val (.int (own_n nr)), .val (.int (fl &&& (3 : Int32))), .val (.int rv), .val (.int lane), .unset, .unset, .unset] [(.int (own_n nr)), (.double (FP.i2d (own_len lr))), (.ref a899), (.ref a899)])) _
        exact hh)
      obtain ⟨_, _, ⟨T908, L909, k_910, n_911⟩, -, X912, hSc919, hgr920, ⟨Lc913, hQ914, l_915, y_916, z_917⟩, st918⟩ := X892.specialBackS hx (y := (⟨"com/example/ample_gap/amplegap/simulation/Road", "<init>", "(DI)V"⟩ : MethodName)) rfl hown (mvT hZ (wT hw 4 rfl)) (mvT hZ (wT hw 5 rfl)) (mvT hZ (wT hw 6 rfl)) (by decide) (backOfS (W := 1) (rmC2 l Z a0 hw [] a899 (FP.i2d (own_len lr)) (own_n nr) h891 n0 Z903 A895 G901 F904 F905 F906 F907 (own_no _) (own_fin_le (i2d_fin _)) (own_pos (own_len_rng lr).1) (own_n1 nr) (own_n2 nr)) hZ (wT hw 6 rfl) (wT hw 3 rfl) (by decide) (by decide)) (g := (mkF m 94 #[.val (.int lr), .val (.int la), .val (.int nr), .val (.int fl), .val (.double (FP.i2d (own_len lr))), .second, .val (.int (own_n nr)), .val (.int (fl &&& (3 : Int32))), .val (.int rv), .val (.int lane), .unset, .unset, .unset] [(.int (own_n nr)), (.double (FP.i2d (own_len lr))), (.ref a899), (.ref a899)])) rfl (by rw [hml]; rfl) (Steps.refl _) (a := a899) (argsL := [(.double (FP.i2d (own_len lr))), (.int (own_n nr))]) (rest := [(.ref a899)]) (lenOf own_h11 rfl) rfl (by show 2 * 0 + _ ≤ _; exact Nat.le_of_eq rfl) (hb hby at_94) (fun _ _ => ⟨rfl, e893, (by decide : 1 + 2 ≤ _), (by decide : 4 + 48 ≤ _)⟩)
      dsimp only [Pt.U, Pt.locs, Pt.cells, Pt.slots] at X912 hSc919 hgr920 l_915 y_916 z_917 st918 hQ914
      subst l_915 y_916 z_917
      obtain ⟨X922, hS923, hZ924, hown925⟩ := rebS hS0 (by rw [e893]; exact hk902) X912 hSc919 hgr920 hZ hown
      obtain ⟨rfl, N926, K927, E928, F929, F930, F931, F932⟩ := hQ914
      have N933 := Fr.app N0 N926
      have F934 := A895.keep K927
      have Z935 : n0 ≤ T908.heap.size := Nat.le_trans Z903 K927.1
      have hk936 := Nat.le_trans hk902 (show h891.size ≤ T908.heap.size from K927.1)
      have e937 : T908.heap = T908.heap := rfl
      have k55 : own_K p e below (T908.setTop (mkF m 97 #[.val (.int lr), .val (.int la), .val (.int nr), .val (.int fl), .val (.double (FP.i2d (own_len lr))), .second, .val (.int (own_n nr)), .val (.int (fl &&& (3 : Int32))), .val (.int rv), .val (.int lane), .unset, .unset, .unset] [(.ref a899)])) (s₁.setTop (entryFrame m #[(.int lr), (.int la), (.int nr), (.int fl)] maxLocals)) := fun t hh => k54 t (st918.trans hh)
      have k56 : own_K p e below (T908.setTop (mkF m 121 #[.val (.int lr), .val (.int la), .val (.int nr), .val (.int fl), .val (.double (FP.i2d (own_len lr))), .second, .val (.int (own_n nr)), .val (.int (fl &&& (3 : Int32))), .val (.int rv), .val (.int lane), .val (.ref a899), .val (.int (own_n nr)), .unset] [(.int rv)])) (s₁.setTop (entryFrame m #[(.int lr), (.int la), (.int nr), (.int fl)] maxLocals)) := fun t hh => k55 t (by
        refine XS.astore X922.here hx rfl (hb hby at_97) rfl rfl (l' := #[.val (.int lr), .val (.int la), .val (.int nr), .val (.int fl), .val (.double (FP.i2d (own_len lr))), .second, .val (.int (own_n nr)), .val (.int (fl &&& (3 : Int32))), .val (.int rv), .val (.int lane), .val (.ref a899), .unset, .unset]) rfl ?_
        show Steps p.tables e below (T908.setTop (mkF m 99 #[.val (.int lr), .val (.int la), .val (.int nr), .val (.int fl), .val (.double (FP.i2d (own_len lr))), .second, .val (.int (own_n nr)), .val (.int (fl &&& (3 : Int32))), .val (.int rv), .val (.int lane), .val (.ref a899), .unset, .unset] [])) _
        refine XS.iload X922.here hx rfl (hb hby at_99) rfl ?_
        show Steps p.tables e below (T908.setTop (mkF m 101 #[.val (.int lr), .val (.int la), .val (.int nr), .val (.int fl), .val (.double (FP.i2d (own_len lr))), .second, .val (.int (own_n nr)), .val (.int (fl &&& (3 : Int32))), .val (.int rv), .val (.int lane), .val (.ref a899), .unset, .unset] [(.int (own_n nr))])) _
        refine XS.istore X922.here hx rfl (hb hby at_101) rfl (l' := #[.val (.int lr), .val (.int la), .val (.int nr), .val (.int fl), .val (.double (FP.i2d (own_len lr))), .second, .val (.int (own_n nr)), .val (.int (fl &&& (3 : Int32))), .val (.int rv), .val (.int lane), .val (.ref a899), .val (.int (own_n nr)), .unset]) rfl ?_
        show Steps p.tables e below (T908.setTop (mkF m 103 #[.val (.int lr), .val (.int la), .val (.int nr), .val (.int fl), .val (.double (FP.i2d (own_len lr))), .second, .val (.int (own_n nr)), .val (.int (fl &&& (3 : Int32))), .val (.int rv), .val (.int lane), .val (.ref a899), .val (.int (own_n nr)), .unset] [])) _
        refine XS.goto X922.here hx rfl (pc0 := 103) (pc' := 119) rfl (hb hby at_103) (by decide) (by decide) ?_
        show Steps p.tables e below (T908.setTop (mkF m 119 #[.val (.int lr), .val (.int la), .val (.int nr), .val (.int fl), .val (.double (FP.i2d (own_len lr))), .second, .val (.int (own_n nr)), .val (.int (fl &&& (3 : Int32))), .val (.int rv), .val (.int lane), .val (.ref a899), .val (.int (own_n nr)), .unset] [])) _
        refine XS.iload X922.here hx rfl (hb hby at_119) rfl ?_
        show Steps p.tables e below (T908.setTop (mkF m 121 #[.val (.int lr), .val (.int la), .val (.int nr), .val (.int fl), .val (.double (FP.i2d (own_len lr))), .second, .val (.int (own_n nr)), .val (.int (fl &&& (3 : Int32))), .val (.int rv), .val (.int lane), .val (.ref a899), .val (.int (own_n nr)), .unset] [(.int rv)])) _
        exact hh)
      by_cases c121 : rv = 0
      ·
        have k57 : own_K p e below (T908.setTop (mkF m 141 #[.val (.int lr), .val (.int la), .val (.int nr), .val (.int fl), .val (.double (FP.i2d (own_len lr))), .second, .val (.int (own_n nr)), .val (.int (fl &&& (3 : Int32))), .val (.int rv), .val (.int lane), .val (.ref a899), .val (.int (own_n nr)), .unset] [])) (s₁.setTop (entryFrame m #[(.int lr), (.int la), (.int nr), (.int fl)] maxLocals)) := fun t hh => k56 t (by
          refine XS.ifYes X922.here hx rfl (pc0 := 121) (pc' := 141) rfl (hb hby at_121) rfl (own_ifT_eq c121) (by decide) (by decide) ?_
          show Steps p.tables e below (T908.setTop (mkF m 141 #[.val (.int lr), .val (.int la), .val (.int nr), .val (.int fl), .val (.double (FP.i2d (own_len lr))), .second, .val (.int (own_n nr)), .val (.int (fl &&& (3 : Int32))), .val (.int rv), .val (.int lane), .val (.ref a899), .val (.int (own_n nr)), .unset] [])) _
          exact hh)
        obtain ⟨ex, hM938, k58⟩ : ∃ ex : Int32, (ex = own_ex lane rv (own_n nr)) ∧ own_K p e below (T908.setTop (mkF m 178 #[.val (.int lr), .val (.int la), .val (.int nr), .val (.int fl), .val (.double (FP.i2d (own_len lr))), .second, .val (.int (own_n nr)), .val (.int (fl &&& (3 : Int32))), .val (.int rv), .val (.int lane), .val (.ref a899), .val (.int (own_n nr)), .val (.int ex)] [])) (s₁.setTop (entryFrame m #[(.int lr), (.int la), (.int nr), (.int fl)] maxLocals)) := by
          have k59 : own_K p e below (T908.setTop (mkF m 143 #[.val (.int lr), .val (.int la), .val (.int nr), .val (.int fl), .val (.double (FP.i2d (own_len lr))), .second, .val (.int (own_n nr)), .val (.int (fl &&& (3 : Int32))), .val (.int rv), .val (.int lane), .val (.ref a899), .val (.int (own_n nr)), .unset] [(.int lane)])) (s₁.setTop (entryFrame m #[(.int lr), (.int la), (.int nr), (.int fl)] maxLocals)) := fun t hh => k57 t (by
            refine XS.iload X922.here hx rfl (hb hby at_141) rfl ?_
            show Steps p.tables e below (T908.setTop (mkF m 143 #[.val (.int lr), .val (.int la), .val (.int nr), .val (.int fl), .val (.double (FP.i2d (own_len lr))), .second, .val (.int (own_n nr)), .val (.int (fl &&& (3 : Int32))), .val (.int rv), .val (.int lane), .val (.ref a899), .val (.int (own_n nr)), .unset] [(.int lane)])) _
            exact hh)
          by_cases c143 : lane < 0
          ·
            have k60 : own_K p e below (T908.setTop (mkF m 178 #[.val (.int lr), .val (.int la), .val (.int nr), .val (.int fl), .val (.double (FP.i2d (own_len lr))), .second, .val (.int (own_n nr)), .val (.int (fl &&& (3 : Int32))), .val (.int rv), .val (.int lane), .val (.ref a899), .val (.int (own_n nr)), .val (.int (0 : Int32))] [])) (s₁.setTop (entryFrame m #[(.int lr), (.int la), (.int nr), (.int fl)] maxLocals)) := fun t hh => k59 t (by
              refine XS.ifNo X922.here hx rfl (hb hby at_143) rfl (own_ifF_ge c143) ?_
              show Steps p.tables e below (T908.setTop (mkF m 146 #[.val (.int lr), .val (.int la), .val (.int nr), .val (.int fl), .val (.double (FP.i2d (own_len lr))), .second, .val (.int (own_n nr)), .val (.int (fl &&& (3 : Int32))), .val (.int rv), .val (.int lane), .val (.ref a899), .val (.int (own_n nr)), .unset] [])) _
              refine XS.iconst X922.here hx rfl (hb hby at_146) ?_
              show Steps p.tables e below (T908.setTop (mkF m 147 #[.val (.int lr), .val (.int la), .val (.int nr), .val (.int fl), .val (.double (FP.i2d (own_len lr))), .second, .val (.int (own_n nr)), .val (.int (fl &&& (3 : Int32))), .val (.int rv), .val (.int lane), .val (.ref a899), .val (.int (own_n nr)), .unset] [(.int (0 : Int32))])) _
              refine XS.istore X922.here hx rfl (hb hby at_147) rfl (l' := #[.val (.int lr), .val (.int la), .val (.int nr), .val (.int fl), .val (.double (FP.i2d (own_len lr))), .second, .val (.int (own_n nr)), .val (.int (fl &&& (3 : Int32))), .val (.int rv), .val (.int lane), .val (.ref a899), .val (.int (own_n nr)), .val (.int (0 : Int32))]) rfl ?_
              show Steps p.tables e below (T908.setTop (mkF m 149 #[.val (.int lr), .val (.int la), .val (.int nr), .val (.int fl), .val (.double (FP.i2d (own_len lr))), .second, .val (.int (own_n nr)), .val (.int (fl &&& (3 : Int32))), .val (.int rv), .val (.int lane), .val (.ref a899), .val (.int (own_n nr)), .val (.int (0 : Int32))] [])) _
              refine XS.goto X922.here hx rfl (pc0 := 149) (pc' := 178) rfl (hb hby at_149) (by decide) (by decide) ?_
              show Steps p.tables e below (T908.setTop (mkF m 178 #[.val (.int lr), .val (.int la), .val (.int nr), .val (.int fl), .val (.double (FP.i2d (own_len lr))), .second, .val (.int (own_n nr)), .val (.int (fl &&& (3 : Int32))), .val (.int rv), .val (.int lane), .val (.ref a899), .val (.int (own_n nr)), .val (.int (0 : Int32))] [])) _
              exact hh)
            exact ⟨(0 : Int32), (by first | (simp only [own_ex, c143, if_true, if_false]; done) | (simp [own_ex, c143]; done)), k60⟩
          ·
            have k61 : own_K p e below (T908.setTop (mkF m 154 #[.val (.int lr), .val (.int la), .val (.int nr), .val (.int fl), .val (.double (FP.i2d (own_len lr))), .second, .val (.int (own_n nr)), .val (.int (fl &&& (3 : Int32))), .val (.int rv), .val (.int lane), .val (.ref a899), .val (.int (own_n nr)), .unset] [(.int lane)])) (s₁.setTop (entryFrame m #[(.int lr), (.int la), (.int nr), (.int fl)] maxLocals)) := fun t hh => k59 t (by
              refine XS.ifYes X922.here hx rfl (pc0 := 143) (pc' := 152) rfl (hb hby at_143) rfl (own_ifT_ge c143) (by decide) (by decide) ?_
              show Steps p.tables e below (T908.setTop (mkF m 152 #[.val (.int lr), .val (.int la), .val (.int nr), .val (.int fl), .val (.double (FP.i2d (own_len lr))), .second, .val (.int (own_n nr)), .val (.int (fl &&& (3 : Int32))), .val (.int rv), .val (.int lane), .val (.ref a899), .val (.int (own_n nr)), .unset] [])) _
              refine XS.iload X922.here hx rfl (hb hby at_152) rfl ?_
              show Steps p.tables e below (T908.setTop (mkF m 154 #[.val (.int lr), .val (.int la), .val (.int nr), .val (.int fl), .val (.double (FP.i2d (own_len lr))), .second, .val (.int (own_n nr)), .val (.int (fl &&& (3 : Int32))), .val (.int rv), .val (.int lane), .val (.ref a899), .val (.int (own_n nr)), .unset] [(.int lane)])) _
              exact hh)
            by_cases c154 : lane = 0
            ·
              have k62 : own_K p e below (T908.setTop (mkF m 178 #[.val (.int lr), .val (.int la), .val (.int nr), .val (.int fl), .val (.double (FP.i2d (own_len lr))), .second, .val (.int (own_n nr)), .val (.int (fl &&& (3 : Int32))), .val (.int rv), .val (.int lane), .val (.ref a899), .val (.int (own_n nr)), .val (.int rv)] [])) (s₁.setTop (entryFrame m #[(.int lr), (.int la), (.int nr), (.int fl)] maxLocals)) := fun t hh => k61 t (by
                refine XS.ifNo X922.here hx rfl (hb hby at_154) rfl (own_ifF_ne c154) ?_
                show Steps p.tables e below (T908.setTop (mkF m 157 #[.val (.int lr), .val (.int la), .val (.int nr), .val (.int fl), .val (.double (FP.i2d (own_len lr))), .second, .val (.int (own_n nr)), .val (.int (fl &&& (3 : Int32))), .val (.int rv), .val (.int lane), .val (.ref a899), .val (.int (own_n nr)), .unset] [])) _
                refine XS.iload X922.here hx rfl (hb hby at_157) rfl ?_
                show Steps p.tables e below (T908.setTop (mkF m 159 #[.val (.int lr), .val (.int la), .val (.int nr), .val (.int fl), .val (.double (FP.i2d (own_len lr))), .second, .val (.int (own_n nr)), .val (.int (fl &&& (3 : Int32))), .val (.int rv), .val (.int lane), .val (.ref a899), .val (.int (own_n nr)), .unset] [(.int rv)])) _
                refine XS.istore X922.here hx rfl (hb hby at_159) rfl (l' := #[.val (.int lr), .val (.int la), .val (.int nr), .val (.int fl), .val (.double (FP.i2d (own_len lr))), .second, .val (.int (own_n nr)), .val (.int (fl &&& (3 : Int32))), .val (.int rv), .val (.int lane), .val (.ref a899), .val (.int (own_n nr)), .val (.int rv)]) rfl ?_
                show Steps p.tables e below (T908.setTop (mkF m 161 #[.val (.int lr), .val (.int la), .val (.int nr), .val (.int fl), .val (.double (FP.i2d (own_len lr))), .second, .val (.int (own_n nr)), .val (.int (fl &&& (3 : Int32))), .val (.int rv), .val (.int lane), .val (.ref a899), .val (.int (own_n nr)), .val (.int rv)] [])) _
                refine XS.goto X922.here hx rfl (pc0 := 161) (pc' := 178) rfl (hb hby at_161) (by decide) (by decide) ?_
                show Steps p.tables e below (T908.setTop (mkF m 178 #[.val (.int lr), .val (.int la), .val (.int nr), .val (.int fl), .val (.double (FP.i2d (own_len lr))), .second, .val (.int (own_n nr)), .val (.int (fl &&& (3 : Int32))), .val (.int rv), .val (.int lane), .val (.ref a899), .val (.int (own_n nr)), .val (.int rv)] [])) _
                exact hh)
              exact ⟨rv, (by first | (simp only [own_ex, c143, c154, if_true, if_false]; done) | (simp [own_ex, c143, c154]; done)), k62⟩
            ·
              have k63 : own_K p e below (T908.setTop (mkF m 168 #[.val (.int lr), .val (.int la), .val (.int nr), .val (.int fl), .val (.double (FP.i2d (own_len lr))), .second, .val (.int (own_n nr)), .val (.int (fl &&& (3 : Int32))), .val (.int rv), .val (.int lane), .val (.ref a899), .val (.int (own_n nr)), .unset] [(.int (own_n nr)), (.int lane)])) (s₁.setTop (entryFrame m #[(.int lr), (.int la), (.int nr), (.int fl)] maxLocals)) := fun t hh => k61 t (by
                refine XS.ifYes X922.here hx rfl (pc0 := 154) (pc' := 164) rfl (hb hby at_154) rfl (own_ifT_ne c154) (by decide) (by decide) ?_
                show Steps p.tables e below (T908.setTop (mkF m 164 #[.val (.int lr), .val (.int la), .val (.int nr), .val (.int fl), .val (.double (FP.i2d (own_len lr))), .second, .val (.int (own_n nr)), .val (.int (fl &&& (3 : Int32))), .val (.int rv), .val (.int lane), .val (.ref a899), .val (.int (own_n nr)), .unset] [])) _
                refine XS.iload X922.here hx rfl (hb hby at_164) rfl ?_
                show Steps p.tables e below (T908.setTop (mkF m 166 #[.val (.int lr), .val (.int la), .val (.int nr), .val (.int fl), .val (.double (FP.i2d (own_len lr))), .second, .val (.int (own_n nr)), .val (.int (fl &&& (3 : Int32))), .val (.int rv), .val (.int lane), .val (.ref a899), .val (.int (own_n nr)), .unset] [(.int lane)])) _
                refine XS.iload X922.here hx rfl (hb hby at_166) rfl ?_
                show Steps p.tables e below (T908.setTop (mkF m 168 #[.val (.int lr), .val (.int la), .val (.int nr), .val (.int fl), .val (.double (FP.i2d (own_len lr))), .second, .val (.int (own_n nr)), .val (.int (fl &&& (3 : Int32))), .val (.int rv), .val (.int lane), .val (.ref a899), .val (.int (own_n nr)), .unset] [(.int (own_n nr)), (.int lane)])) _
                exact hh)
              by_cases c168 : (own_n nr) < lane
              ·
                have k64 : own_K p e below (T908.setTop (mkF m 178 #[.val (.int lr), .val (.int la), .val (.int nr), .val (.int fl), .val (.double (FP.i2d (own_len lr))), .second, .val (.int (own_n nr)), .val (.int (fl &&& (3 : Int32))), .val (.int rv), .val (.int lane), .val (.ref a899), .val (.int (own_n nr)), .val (.int (0 : Int32))] [])) (s₁.setTop (entryFrame m #[(.int lr), (.int la), (.int nr), (.int fl)] maxLocals)) := fun t hh => k63 t (by
                  refine XS.icmpYes X922.here hx rfl (pc0 := 168) (pc' := 175) rfl (hb hby at_168) rfl (own_icT_gt c168) (by decide) (by decide) ?_
                  show Steps p.tables e below (T908.setTop (mkF m 175 #[.val (.int lr), .val (.int la), .val (.int nr), .val (.int fl), .val (.double (FP.i2d (own_len lr))), .second, .val (.int (own_n nr)), .val (.int (fl &&& (3 : Int32))), .val (.int rv), .val (.int lane), .val (.ref a899), .val (.int (own_n nr)), .unset] [])) _
                  refine XS.iconst X922.here hx rfl (hb hby at_175) ?_
                  show Steps p.tables e below (T908.setTop (mkF m 176 #[.val (.int lr), .val (.int la), .val (.int nr), .val (.int fl), .val (.double (FP.i2d (own_len lr))), .second, .val (.int (own_n nr)), .val (.int (fl &&& (3 : Int32))), .val (.int rv), .val (.int lane), .val (.ref a899), .val (.int (own_n nr)), .unset] [(.int (0 : Int32))])) _
                  refine XS.istore X922.here hx rfl (hb hby at_176) rfl (l' := #[.val (.int lr), .val (.int la), .val (.int nr), .val (.int fl), .val (.double (FP.i2d (own_len lr))), .second, .val (.int (own_n nr)), .val (.int (fl &&& (3 : Int32))), .val (.int rv), .val (.int lane), .val (.ref a899), .val (.int (own_n nr)), .val (.int (0 : Int32))]) rfl ?_
                  show Steps p.tables e below (T908.setTop (mkF m 178 #[.val (.int lr), .val (.int la), .val (.int nr), .val (.int fl), .val (.double (FP.i2d (own_len lr))), .second, .val (.int (own_n nr)), .val (.int (fl &&& (3 : Int32))), .val (.int rv), .val (.int lane), .val (.ref a899), .val (.int (own_n nr)), .val (.int (0 : Int32))] [])) _
                  exact hh)
                exact ⟨(0 : Int32), (by first | (simp only [own_ex, c143, c154, c168, if_true, if_false]; done) | (simp [own_ex, c143, c154, c168]; done)), k64⟩
              ·
                have k65 : own_K p e below (T908.setTop (mkF m 178 #[.val (.int lr), .val (.int la), .val (.int nr), .val (.int fl), .val (.double (FP.i2d (own_len lr))), .second, .val (.int (own_n nr)), .val (.int (fl &&& (3 : Int32))), .val (.int rv), .val (.int lane), .val (.ref a899), .val (.int (own_n nr)), .val (.int (1 : Int32))] [])) (s₁.setTop (entryFrame m #[(.int lr), (.int la), (.int nr), (.int fl)] maxLocals)) := fun t hh => k63 t (by
                  refine XS.icmpNo X922.here hx rfl (hb hby at_168) rfl (own_icF_gt c168) ?_
                  show Steps p.tables e below (T908.setTop (mkF m 171 #[.val (.int lr), .val (.int la), .val (.int nr), .val (.int fl), .val (.double (FP.i2d (own_len lr))), .second, .val (.int (own_n nr)), .val (.int (fl &&& (3 : Int32))), .val (.int rv), .val (.int lane), .val (.ref a899), .val (.int (own_n nr)), .unset] [])) _
                  refine XS.iconst X922.here hx rfl (hb hby at_171) ?_
                  show Steps p.tables e below (T908.setTop (mkF m 172 #[.val (.int lr), .val (.int la), .val (.int nr), .val (.int fl), .val (.double (FP.i2d (own_len lr))), .second, .val (.int (own_n nr)), .val (.int (fl &&& (3 : Int32))), .val (.int rv), .val (.int lane), .val (.ref a899), .val (.int (own_n nr)), .unset] [(.int (1 : Int32))])) _
                  refine XS.goto X922.here hx rfl (pc0 := 172) (pc' := 176) rfl (hb hby at_172) (by decide) (by decide) ?_
                  show Steps p.tables e below (T908.setTop (mkF m 176 #[.val (.int lr), .val (.int la), .val (.int nr), .val (.int fl), .val (.double (FP.i2d (own_len lr))), .second, .val (.int (own_n nr)), .val (.int (fl &&& (3 : Int32))), .val (.int rv), .val (.int lane), .val (.ref a899), .val (.int (own_n nr)), .unset] [(.int (1 : Int32))])) _
                  refine XS.istore X922.here hx rfl (hb hby at_176) rfl (l' := #[.val (.int lr), .val (.int la), .val (.int nr), .val (.int fl), .val (.double (FP.i2d (own_len lr))), .second, .val (.int (own_n nr)), .val (.int (fl &&& (3 : Int32))), .val (.int rv), .val (.int lane), .val (.ref a899), .val (.int (own_n nr)), .val (.int (1 : Int32))]) rfl ?_
                  show Steps p.tables e below (T908.setTop (mkF m 178 #[.val (.int lr), .val (.int la), .val (.int nr), .val (.int fl), .val (.double (FP.i2d (own_len lr))), .second, .val (.int (own_n nr)), .val (.int (fl &&& (3 : Int32))), .val (.int rv), .val (.int lane), .val (.ref a899), .val (.int (own_n nr)), .val (.int (1 : Int32))] [])) _
                  exact hh)
                exact ⟨(1 : Int32), (by first | (simp only [own_ex, c143, c154, c168, if_true, if_false]; done) | (simp [own_ex, c143, c154, c168]; done)), k65⟩
        have k66 : own_K p e below (T908.setTop (mkF m 182 #[.val (.int lr), .val (.int la), .val (.int nr), .val (.int fl), .val (.double (FP.i2d (own_len lr))), .second, .val (.int (own_n nr)), .val (.int (fl &&& (3 : Int32))), .val (.int rv), .val (.int lane), .val (.ref a899), .val (.int (own_n nr)), .val (.int ex)] [(.int lane), (.ref a899)])) (s₁.setTop (entryFrame m #[(.int lr), (.int la), (.int nr), (.int fl)] maxLocals)) := fun t hh => k58 t (by
          refine XS.aload X922.here hx rfl (hb hby at_178) rfl rfl ?_
          show Steps p.tables e below (T908.setTop (mkF m 180 #[.val (.int lr), .val (.int la), .val (.int nr), .val (.int fl), .val (.double (FP.i2d (own_len lr))), .second, .val (.int (own_n nr)), .val (.int (fl &&& (3 : Int32))), .val (.int rv), .val (.int lane), .val (.ref a899), .val (.int (own_n nr)), .val (.int ex)] [(.ref a899)])) _
          refine XS.iload X922.here hx rfl (hb hby at_180) rfl ?_
          show Steps p.tables e below (T908.setTop (mkF m 182 #[.val (.int lr), .val (.int la), .val (.int nr), .val (.int fl), .val (.double (FP.i2d (own_len lr))), .second, .val (.int (own_n nr)), .val (.int (fl &&& (3 : Int32))), .val (.int rv), .val (.int lane), .val (.ref a899), .val (.int (own_n nr)), .val (.int ex)] [(.int lane), (.ref a899)])) _
          exact hh)
        obtain ⟨cq950, kq951, qa952, qb953, qc954⟩ := isOf hZ924 e937 E928
        obtain ⟨_, _, ⟨T939, L940, k_941, n_942⟩, -, X943, ⟨Lc944, hQ945, l_946, y_947, z_948⟩, st949⟩ := X922.virtualBack hx (y := (⟨"com/example/ample_gap/amplegap/simulation/Road", "hasLane", "(I)Z"⟩ : MethodName)) (z := (⟨"com/example/ample_gap/amplegap/simulation/Road", "hasLane", "(I)Z"⟩ : MethodName)) hown925 (mvT hZ924 (wT hw 45 rfl)) (mvT hZ924 (wT hw 46 rfl)) (notFace_of_selects (args := #[]) (mvT hZ924 (wT hw 48 rfl))) (mvT hZ924 (wT hw 48 rfl)) (mvT hZ924 (wT hw 47 rfl)) (by decide) (backOf (W := 0) (rmH1 l Z a0 hw [] a899 lane (own_n nr) T908.heap n0 Z935 E928 F932 F930) hZ924 (wT hw 49 rfl) (wT hw 3 rfl) (by decide) (by decide)) qa952 qc954 (g := (mkF m 182 #[.val (.int lr), .val (.int la), .val (.int nr), .val (.int fl), .val (.double (FP.i2d (own_len lr))), .second, .val (.int (own_n nr)), .val (.int (fl &&& (3 : Int32))), .val (.int rv), .val (.int lane), .val (.ref a899), .val (.int (own_n nr)), .val (.int ex)] [(.int lane), (.ref a899)])) rfl (by rw [hml]; rfl) (Steps.refl _) (argsL := [(.int lane)]) (rest := []) (lenOf own_h17 rfl) rfl (by show 2 * 0 + _ ≤ _; exact Nat.le_of_eq rfl) (hb hby at_182) (fun _ _ => ⟨rfl, e937, (by decide : 3 + 0 ≤ _), (by decide : 52 + 0 ≤ _)⟩)
        dsimp only [Pt.U, Pt.locs, Pt.cells, Pt.slots] at X943 l_946 y_947 z_948 st949 hQ945
        subst l_946 y_947 z_948
        obtain ⟨rfl, N955, e956⟩ := hQ945
        have N957 := Fr.app N933 N955
        have k67 : own_K p e below (T939.setTop (mkF m 185 #[.val (.int lr), .val (.int la), .val (.int nr), .val (.int fl), .val (.double (FP.i2d (own_len lr))), .second, .val (.int (own_n nr)), .val (.int (fl &&& (3 : Int32))), .val (.int rv), .val (.int lane), .val (.ref a899), .val (.int (own_n nr)), .val (.int ex)] [(.int (own_hl lane (1 : Int32) (own_n nr)))])) (s₁.setTop (entryFrame m #[(.int lr), (.int la), (.int nr), (.int fl)] maxLocals)) := fun t hh => k66 t (st949.trans hh)
        have k68 : own_K p e below (T939.setTop (mkF m 195 #[.val (.int lr), .val (.int la), .val (.int nr), .val (.int fl), .val (.double (FP.i2d (own_len lr))), .second, .val (.int (own_n nr)), .val (.int (fl &&& (3 : Int32))), .val (.int rv), .val (.int lane), .val (.ref a899), .val (.int (own_n nr)), .val (.int ex)] [(.int (1 : Int32))])) (s₁.setTop (entryFrame m #[(.int lr), (.int la), (.int nr), (.int fl)] maxLocals)) := fun t hh => k67 t (by
          refine XS.iload X943.here hx rfl (hb hby at_185) rfl ?_
          show Steps p.tables e below (T939.setTop (mkF m 187 #[.val (.int lr), .val (.int la), .val (.int nr), .val (.int fl), .val (.double (FP.i2d (own_len lr))), .second, .val (.int (own_n nr)), .val (.int (fl &&& (3 : Int32))), .val (.int rv), .val (.int lane), .val (.ref a899), .val (.int (own_n nr)), .val (.int ex)] [(.int ex), (.int (own_hl lane (1 : Int32) (own_n nr)))])) _
          refine XS.icmpNo X943.here hx rfl (hb hby at_187) rfl (own_icF_ne ((own_same0 lane (own_n nr) (own_n_rng nr).1).trans (by rw [hM938, c121]))) ?_
          show Steps p.tables e below (T939.setTop (mkF m 190 #[.val (.int lr), .val (.int la), .val (.int nr), .val (.int fl), .val (.double (FP.i2d (own_len lr))), .second, .val (.int (own_n nr)), .val (.int (fl &&& (3 : Int32))), .val (.int rv), .val (.int lane), .val (.ref a899), .val (.int (own_n nr)), .val (.int ex)] [])) _
          refine XS.iconst X943.here hx rfl (hb hby at_190) ?_
          show Steps p.tables e below (T939.setTop (mkF m 191 #[.val (.int lr), .val (.int la), .val (.int nr), .val (.int fl), .val (.double (FP.i2d (own_len lr))), .second, .val (.int (own_n nr)), .val (.int (fl &&& (3 : Int32))), .val (.int rv), .val (.int lane), .val (.ref a899), .val (.int (own_n nr)), .val (.int ex)] [(.int (1 : Int32))])) _
          refine XS.goto X943.here hx rfl (pc0 := 191) (pc' := 195) rfl (hb hby at_191) (by decide) (by decide) ?_
          show Steps p.tables e below (T939.setTop (mkF m 195 #[.val (.int lr), .val (.int la), .val (.int nr), .val (.int fl), .val (.double (FP.i2d (own_len lr))), .second, .val (.int (own_n nr)), .val (.int (fl &&& (3 : Int32))), .val (.int rv), .val (.int lane), .val (.ref a899), .val (.int (own_n nr)), .val (.int ex)] [(.int (1 : Int32))])) _
          exact hh)
        obtain ⟨fs, hr, hrun, hended, hEnd⟩ := X943.leaveW hS923 (by rw [e956]; exact (Nat.le_refl T908.heap.size)) (v := some (.int (1 : Int32))) (fun h => by rw [Bd.returns] at h; cases h)
        refine ⟨_, _, k68 _ (retN X943 hx (t := .boolean) Bd.returns (by simp) (hb hby at_195) hr), hrun, hended, _, _, rfl, ?_, hEnd.1, hEnd.2.1, hEnd.2.2.1, hEnd.2.2.2.mono (by decide) (by decide)⟩
        show QL h0 n0 _ T939.heap _
        rw [e956]
        exact ⟨rfl, N957⟩
      ·
        have k69 : own_K p e below (T908.setTop (mkF m 126 #[.val (.int lr), .val (.int la), .val (.int nr), .val (.int fl), .val (.double (FP.i2d (own_len lr))), .second, .val (.int (own_n nr)), .val (.int (fl &&& (3 : Int32))), .val (.int rv), .val (.int lane), .val (.ref a899), .val (.int (own_n nr)), .unset] [(.ref a899)])) (s₁.setTop (entryFrame m #[(.int lr), (.int la), (.int nr), (.int fl)] maxLocals)) := fun t hh => k56 t (by
          refine XS.ifNo X922.here hx rfl (hb hby at_121) rfl (own_ifF_eq c121) ?_
          show Steps p.tables e below (T908.setTop (mkF m 124 #[.val (.int lr), .val (.int la), .val (.int nr), .val (.int fl), .val (.double (FP.i2d (own_len lr))), .second, .val (.int (own_n nr)), .val (.int (fl &&& (3 : Int32))), .val (.int rv), .val (.int lane), .val (.ref a899), .val (.int (own_n nr)), .unset] [])) _
          refine XS.aload X922.here hx rfl (hb hby at_124) rfl rfl ?_
          show Steps p.tables e below (T908.setTop (mkF m 126 #[.val (.int lr), .val (.int la), .val (.int nr), .val (.int fl), .val (.double (FP.i2d (own_len lr))), .second, .val (.int (own_n nr)), .val (.int (fl &&& (3 : Int32))), .val (.int rv), .val (.int lane), .val (.ref a899), .val (.int (own_n nr)), .unset] [(.ref a899)])) _
          exact hh)
        obtain ⟨T958, h959, X960, e961, E962, A963, D964, U966, st965⟩ := newO X922 hx hZ924 hown925 (wT hw 63 rfl) (wT hw 64 rfl) (wT hw 65 rfl) e937 (g := (mkF m 126 #[.val (.int lr), .val (.int la), .val (.int nr), .val (.int fl), .val (.double (FP.i2d (own_len lr))), .second, .val (.int (own_n nr)), .val (.int (fl &&& (3 : Int32))), .val (.int rv), .val (.int lane), .val (.ref a899), .val (.int (own_n nr)), .unset] [(.ref a899)])) rfl (hb hby at_126) (by decide) (by decide)
        obtain ⟨a967, g968⟩ : ∃ z, z = T908.heap.size := ⟨_, rfl⟩
        rw [← g968] at A963 D964 U966 st965
        have G969 : n0 ≤ a967 := Nat.le_trans Z935 (Nat.le_of_eq g968.symm)
        have hk970 := Nat.le_trans (Nat.le_refl T908.heap.size) (show T908.heap.size ≤ h959.size from E962.1)
        have F971 := Exa.ext (h' := h959) E962 E928
        have F972 := Fld.ext (h' := h959) E962 F929
        have F973 := Fld.ext (h' := h959) E962 F930
        have F974 := Fld.ext (h' := h959) E962 F931
        have F975 := Fld.ext (h' := h959) E962 F932
        have Z976 : n0 ≤ h959.size := Nat.le_trans Z935 E962.1
        have F977 : Fld Z h959 a967 "com/example/ample_gap/amplegap/simulation/OnRamp" "start" "D" (.double (0 : UInt64)) := D964 (Or.inr (wT hw 77 rfl)) (ty := .double) (by decide)
        have F978 : Fld Z h959 a967 "com/example/ample_gap/amplegap/simulation/OnRamp" "end" "D" (.double (0 : UInt64)) := D964 (Or.inr (wT hw 79 rfl)) (ty := .double) (by decide)
        have k70 : own_K p e below (T958.setTop (mkF m 129 #[.val (.int lr), .val (.int la), .val (.int nr), .val (.int fl), .val (.double (FP.i2d (own_len lr))), .second, .val (.int (own_n nr)), .val (.int (fl &&& (3 : Int32))), .val (.int rv), .val (.int lane), .val (.ref a899), .val (.int (own_n nr)), .unset] [(.ref a967), (.ref a899)])) (s₁.setTop (entryFrame m #[(.int lr), (.int la), (.int nr), (.int fl)] maxLocals)) := fun t hh => k69 t (st965 t hh)
        have k71 : own_K p e below (T958.setTop (mkF m 133 #[.val (.int lr), .val (.int la), .val (.int nr), .val (.int fl), .val (.double (FP.i2d (own_len lr))), .second, .val (.int (own_n nr)), .val (.int (fl &&& (3 : Int32))), .val (.int rv), .val (.int lane), .val (.ref a899), .val (.int (own_n nr)), .unset] [(.double (FP.i2d (own_len lr))), (.double FP.dconst0), (.ref a967), (.ref a967), (.ref a899)])) (s₁.setTop (entryFrame m #[(.int lr), (.int la), (.int nr), (.int fl)] maxLocals)) := fun t hh => k70 t (by
          refine XS.dup X960.here hx rfl (hb hby at_129) rfl rfl ?_
          show Steps p.tables e below (T958.setTop (mkF m 130 #[.val (.int lr), .val (.int la), .val (.int nr), .val (.int fl), .val (.double (FP.i2d (own_len lr))), .second, .val (.int (own_n nr)), .val (.int (fl &&& (3 : Int32))), .val (.int rv), .val (.int lane), .val (.ref a899), .val (.int (own_n nr)), .unset] [(.ref a967), (.ref a967), (.ref a899)])) _
          refine XS.dconst0 X960.here hx rfl (hb hby at_130) rfl ?_
          show Steps p.tables e below (T958.setTop (mkF m 131 #[.val (.int lr), .val (.int la), .val (.int nr), .val (.int fl), .val (.double (FP.i2d (own_len lr))), .second, .val (.int (own_n nr)), .val (.int (fl &&& (3 : Int32))), .val (.int rv), .val (.int lane), .val (.ref a899), .val (.int (own_n nr)), .unset] [(.double FP.dconst0), (.ref a967), (.ref a967), (.ref a899)])) _
          refine XS.dload X960.here hx rfl (hb hby at_131) rfl ?_
          show Steps p.tables e below (T958.setTop (mkF m 133 #[.val (.int lr), .val (.int la), .val (.int nr), .val (.int fl), .val (.double (FP.i2d (own_len lr))), .second, .val (.int (own_n nr)), .val (.int (fl &&& (3 : Int32))), .val (.int rv), .val (.int lane), .val (.ref a899), .val (.int (own_n nr)), .unset] [(.double (FP.i2d (own_len lr))), (.double FP.dconst0), (.ref a967), (.ref a967), (.ref a899)])) _
          exact hh)
        obtain ⟨_, _, ⟨T979, L980, k_981, n_982⟩, -, X983, hSc990, hgr991, ⟨Lc984, hQ985, l_986, y_987, z_988⟩, st989⟩ := X960.specialBackS hx (y := (⟨"com/example/ample_gap/amplegap/simulation/OnRamp", "<init>", "(DD)V"⟩ : MethodName)) rfl hown925 (mvT hZ924 (wT hw 66 rfl)) (mvT hZ924 (wT hw 67 rfl)) (mvT hZ924 (wT hw 68 rfl)) (by decide) (backOfS (W := 2) (rmO l Z a0 hw [] a967 FP.dconst0 (FP.i2d (own_len lr)) h959 n0 Z976 A963 G969 F977 F978 (own_z_fin).noNaN (own_fin_le own_z_fin) own_z_nneg (own_no _) (own_fin_le (i2d_fin _)) (own_gt0 (own_len_rng lr).1)) hZ924 (wT hw 68 rfl) (wT hw 65 rfl) (by decide) (by decide)) (g := (mkF m 133 #[.val (.int lr), .val (.int la), .val (.int nr), .val (.int fl), .val (.double (FP.i2d (own_len lr))), .second, .val (.int (own_n nr)), .val (.int (fl &&& (3 : Int32))), .val (.int rv), .val (.int lane), .val (.ref a899), .val (.int (own_n nr)), .unset] [(.double (FP.i2d (own_len lr))), (.double FP.dconst0), (.ref a967), (.ref a967), (.ref a899)])) rfl (by rw [hml]; rfl) (Steps.refl _) (a := a967) (argsL := [(.double FP.dconst0), (.double (FP.i2d (own_len lr)))]) (rest := [(.ref a967), (.ref a899)]) (lenOf own_h21 rfl) rfl (by show 2 * 0 + _ ≤ _; exact Nat.le_of_eq rfl) (hb hby at_133) (fun _ _ => ⟨rfl, e961, (by decide : 4 + 4 ≤ _), (by decide : 54 + 104 ≤ _)⟩)
        dsimp only [Pt.U, Pt.locs, Pt.cells, Pt.slots] at X983 hSc990 hgr991 l_986 y_987 z_988 st989 hQ985
        subst l_986 y_987 z_988
        obtain ⟨X993, hS994, hZ995, hown996⟩ := rebS hS923 (by rw [e961]; exact hk970) X983 hSc990 hgr991 hZ924 hown925
        obtain ⟨rfl, N997, K998, E999, F1000⟩ := hQ985
        have N1001 := Fr.app N933 N997
        have F1002 := F971.keep K998
        have ne1004 : a899 ≠ a967 := by rw [g968]; exact Nat.ne_of_lt E928.lt
        have F1003 := F972.keep K998 (ninS ne1004 nin0)
        have F1005 := F973.keep K998 (ninS ne1004 nin0)
        have F1006 := F974.keep K998 (ninS ne1004 nin0)
        have F1007 := F975.keep K998 (ninS ne1004 nin0)
        have F1008 := A963.keep K998
        have Z1009 : n0 ≤ T979.heap.size := Nat.le_trans Z976 K998.1
        have hk1010 := Nat.le_trans hk970 (show h959.size ≤ T979.heap.size from K998.1)
        have e1011 : T979.heap = T979.heap := rfl
        have k72 : own_K p e below (T979.setTop (mkF m 136 #[.val (.int lr), .val (.int la), .val (.int nr), .val (.int fl), .val (.double (FP.i2d (own_len lr))), .second, .val (.int (own_n nr)), .val (.int (fl &&& (3 : Int32))), .val (.int rv), .val (.int lane), .val (.ref a899), .val (.int (own_n nr)), .unset] [(.ref a967), (.ref a899)])) (s₁.setTop (entryFrame m #[(.int lr), (.int la), (.int nr), (.int fl)] maxLocals)) := fun t hh => k71 t (st989.trans hh)
        obtain ⟨cq1023, kq1024, qa1025, qb1026, qc1027⟩ := isOf hZ995 e1011 F1002
        obtain ⟨_, _, ⟨T1012, L1013, k_1014, n_1015⟩, -, X1016, hSc1028, hgr1029, ⟨Lc1017, hQ1018, l_1019, y_1020, z_1021⟩, st1022⟩ := X993.virtualBackS hx (y := (⟨"com/example/ample_gap/amplegap/simulation/Road", "withOnRamp", "(Lcom/example/ample_gap/amplegap/simulation/OnRamp;)Lcom/example/ample_gap/amplegap/simulation/Road;"⟩ : MethodName)) (z := (⟨"com/example/ample_gap/amplegap/simulation/Road", "withOnRamp", "(Lcom/example/ample_gap/amplegap/simulation/OnRamp;)Lcom/example/ample_gap/amplegap/simulation/Road;"⟩ : MethodName)) hown996 (mvT hZ995 (wT hw 80 rfl)) (mvT hZ995 (wT hw 81 rfl)) (notFace_of_selects (args := #[]) (mvT hZ995 (wT hw 83 rfl))) (mvT hZ995 (wT hw 83 rfl)) (mvT hZ995 (wT hw 82 rfl)) (by decide) (backOfS (W := 0) (rmW l Z a0 hw [] a899 a967 (FP.i2d (own_len lr)) (FP.i2d (own_len lr)) (own_n nr) T979.heap n0 Z1009 F1002 E999 F1003 F1005 F1006 F1000 (own_le _)) hZ995 (wT hw 84 rfl) (wT hw 3 rfl) (by decide) (by decide)) qa1025 qc1027 (g := (mkF m 136 #[.val (.int lr), .val (.int la), .val (.int nr), .val (.int fl), .val (.double (FP.i2d (own_len lr))), .second, .val (.int (own_n nr)), .val (.int (fl &&& (3 : Int32))), .val (.int rv), .val (.int lane), .val (.ref a899), .val (.int (own_n nr)), .unset] [(.ref a967), (.ref a899)])) rfl (by rw [hml]; rfl) (Steps.refl _) (argsL := [(.ref a967)]) (rest := []) (lenOf own_h22 rfl) rfl (by show 2 * 0 + _ ≤ _; exact Nat.le_of_eq rfl) (hb hby at_136) (fun _ _ => ⟨rfl, e1011, (by decide : 8 + 3 ≤ _), (by decide : 158 + 24 ≤ _)⟩)
        dsimp only [Pt.U, Pt.locs, Pt.cells, Pt.slots] at X1016 hSc1028 hgr1029 l_1019 y_1020 z_1021 st1022 hQ1018
        subst l_1019 y_1020 z_1021
        obtain ⟨X1031, hS1032, hZ1033, hown1034⟩ := rebS hS994 (by rw [e1011]; exact (Nat.le_refl T979.heap.size)) X1016 hSc1028 hgr1029 hZ995 hown996
        obtain ⟨b1035, rfl, N1036, K1037, G1038, E1039, F1040, F1041⟩ := hQ1018
        have N1042 := Fr.app N1001 N1036
        have F1043 := F1002.keep K1037
        have F1044 := F1003.keep K1037 nin0
        have F1045 := F1005.keep K1037 nin0
        have F1046 := F1006.keep K1037 nin0
        have F1047 := F1007.keep K1037 nin0
        have F1048 := E999.keep K1037
        have F1049 := F1000.keep K1037 nin0
        have Z1050 : n0 ≤ T1012.heap.size := Nat.le_trans Z1009 K1037.1
        have hk1051 := Nat.le_trans (Nat.le_refl T979.heap.size) (show T979.heap.size ≤ T1012.heap.size from K1037.1)
        have e1052 : T1012.heap = T1012.heap := rfl
        have k73 : own_K p e below (T1012.setTop (mkF m 139 #[.val (.int lr), .val (.int la), .val (.int nr), .val (.int fl), .val (.double (FP.i2d (own_len lr))), .second, .val (.int (own_n nr)), .val (.int (fl &&& (3 : Int32))), .val (.int rv), .val (.int lane), .val (.ref a899), .val (.int (own_n nr)), .unset] [(.ref b1035)])) (s₁.setTop (entryFrame m #[(.int lr), (.int la), (.int nr), (.int fl)] maxLocals)) := fun t hh => k72 t (st1022.trans hh)
        have k74 : own_K p e below (T1012.setTop (mkF m 141 #[.val (.int lr), .val (.int la), .val (.int nr), .val (.int fl), .val (.double (FP.i2d (own_len lr))), .second, .val (.int (own_n nr)), .val (.int (fl &&& (3 : Int32))), .val (.int rv), .val (.int lane), .val (.ref b1035), .val (.int (own_n nr)), .unset] [])) (s₁.setTop (entryFrame m #[(.int lr), (.int la), (.int nr), (.int fl)] maxLocals)) := fun t hh => k73 t (by
          refine XS.astore X1031.here hx rfl (hb hby at_139) rfl rfl (l' := #[.val (.int lr), .val (.int la), .val (.int nr), .val (.int fl), .val (.double (FP.i2d (own_len lr))), .second, .val (.int (own_n nr)), .val (.int (fl &&& (3 : Int32))), .val (.int rv), .val (.int lane), .val (.ref b1035), .val (.int (own_n nr)), .unset]) rfl ?_
          show Steps p.tables e below (T1012.setTop (mkF m 141 #[.val (.int lr), .val (.int la), .val (.int nr), .val (.int fl), .val (.double (FP.i2d (own_len lr))), .second, .val (.int (own_n nr)), .val (.int (fl &&& (3 : Int32))), .val (.int rv), .val (.int lane), .val (.ref b1035), .val (.int (own_n nr)), .unset] [])) _
          exact hh)
        obtain ⟨ex, hM1053, k75⟩ : ∃ ex : Int32, (ex = own_ex lane rv (own_n nr)) ∧ own_K p e below (T1012.setTop (mkF m 178 #[.val (.int lr), .val (.int la), .val (.int nr), .val (.int fl), .val (.double (FP.i2d (own_len lr))), .second, .val (.int (own_n nr)), .val (.int (fl &&& (3 : Int32))), .val (.int rv), .val (.int lane), .val (.ref b1035), .val (.int (own_n nr)), .val (.int ex)] [])) (s₁.setTop (entryFrame m #[(.int lr), (.int la), (.int nr), (.int fl)] maxLocals)) := by
          have k76 : own_K p e below (T1012.setTop (mkF m 143 #[.val (.int lr), .val (.int la), .val (.int nr), .val (.int fl), .val (.double (FP.i2d (own_len lr))), .second, .val (.int (own_n nr)), .val (.int (fl &&& (3 : Int32))), .val (.int rv), .val (.int lane), .val (.ref b1035), .val (.int (own_n nr)), .unset] [(.int lane)])) (s₁.setTop (entryFrame m #[(.int lr), (.int la), (.int nr), (.int fl)] maxLocals)) := fun t hh => k74 t (by
            refine XS.iload X1031.here hx rfl (hb hby at_141) rfl ?_
            show Steps p.tables e below (T1012.setTop (mkF m 143 #[.val (.int lr), .val (.int la), .val (.int nr), .val (.int fl), .val (.double (FP.i2d (own_len lr))), .second, .val (.int (own_n nr)), .val (.int (fl &&& (3 : Int32))), .val (.int rv), .val (.int lane), .val (.ref b1035), .val (.int (own_n nr)), .unset] [(.int lane)])) _
            exact hh)
          by_cases c143 : lane < 0
          ·
            have k77 : own_K p e below (T1012.setTop (mkF m 178 #[.val (.int lr), .val (.int la), .val (.int nr), .val (.int fl), .val (.double (FP.i2d (own_len lr))), .second, .val (.int (own_n nr)), .val (.int (fl &&& (3 : Int32))), .val (.int rv), .val (.int lane), .val (.ref b1035), .val (.int (own_n nr)), .val (.int (0 : Int32))] [])) (s₁.setTop (entryFrame m #[(.int lr), (.int la), (.int nr), (.int fl)] maxLocals)) := fun t hh => k76 t (by
              refine XS.ifNo X1031.here hx rfl (hb hby at_143) rfl (own_ifF_ge c143) ?_
              show Steps p.tables e below (T1012.setTop (mkF m 146 #[.val (.int lr), .val (.int la), .val (.int nr), .val (.int fl), .val (.double (FP.i2d (own_len lr))), .second, .val (.int (own_n nr)), .val (.int (fl &&& (3 : Int32))), .val (.int rv), .val (.int lane), .val (.ref b1035), .val (.int (own_n nr)), .unset] [])) _
              refine XS.iconst X1031.here hx rfl (hb hby at_146) ?_
              show Steps p.tables e below (T1012.setTop (mkF m 147 #[.val (.int lr), .val (.int la), .val (.int nr), .val (.int fl), .val (.double (FP.i2d (own_len lr))), .second, .val (.int (own_n nr)), .val (.int (fl &&& (3 : Int32))), .val (.int rv), .val (.int lane), .val (.ref b1035), .val (.int (own_n nr)), .unset] [(.int (0 : Int32))])) _
              refine XS.istore X1031.here hx rfl (hb hby at_147) rfl (l' := #[.val (.int lr), .val (.int la), .val (.int nr), .val (.int fl), .val (.double (FP.i2d (own_len lr))), .second, .val (.int (own_n nr)), .val (.int (fl &&& (3 : Int32))), .val (.int rv), .val (.int lane), .val (.ref b1035), .val (.int (own_n nr)), .val (.int (0 : Int32))]) rfl ?_
              show Steps p.tables e below (T1012.setTop (mkF m 149 #[.val (.int lr), .val (.int la), .val (.int nr), .val (.int fl), .val (.double (FP.i2d (own_len lr))), .second, .val (.int (own_n nr)), .val (.int (fl &&& (3 : Int32))), .val (.int rv), .val (.int lane), .val (.ref b1035), .val (.int (own_n nr)), .val (.int (0 : Int32))] [])) _
              refine XS.goto X1031.here hx rfl (pc0 := 149) (pc' := 178) rfl (hb hby at_149) (by decide) (by decide) ?_
              show Steps p.tables e below (T1012.setTop (mkF m 178 #[.val (.int lr), .val (.int la), .val (.int nr), .val (.int fl), .val (.double (FP.i2d (own_len lr))), .second, .val (.int (own_n nr)), .val (.int (fl &&& (3 : Int32))), .val (.int rv), .val (.int lane), .val (.ref b1035), .val (.int (own_n nr)), .val (.int (0 : Int32))] [])) _
              exact hh)
            exact ⟨(0 : Int32), (by first | (simp only [own_ex, c143, if_true, if_false]; done) | (simp [own_ex, c143]; done)), k77⟩
          ·
            have k78 : own_K p e below (T1012.setTop (mkF m 154 #[.val (.int lr), .val (.int la), .val (.int nr), .val (.int fl), .val (.double (FP.i2d (own_len lr))), .second, .val (.int (own_n nr)), .val (.int (fl &&& (3 : Int32))), .val (.int rv), .val (.int lane), .val (.ref b1035), .val (.int (own_n nr)), .unset] [(.int lane)])) (s₁.setTop (entryFrame m #[(.int lr), (.int la), (.int nr), (.int fl)] maxLocals)) := fun t hh => k76 t (by
              refine XS.ifYes X1031.here hx rfl (pc0 := 143) (pc' := 152) rfl (hb hby at_143) rfl (own_ifT_ge c143) (by decide) (by decide) ?_
              show Steps p.tables e below (T1012.setTop (mkF m 152 #[.val (.int lr), .val (.int la), .val (.int nr), .val (.int fl), .val (.double (FP.i2d (own_len lr))), .second, .val (.int (own_n nr)), .val (.int (fl &&& (3 : Int32))), .val (.int rv), .val (.int lane), .val (.ref b1035), .val (.int (own_n nr)), .unset] [])) _
              refine XS.iload X1031.here hx rfl (hb hby at_152) rfl ?_
              show Steps p.tables e below (T1012.setTop (mkF m 154 #[.val (.int lr), .val (.int la), .val (.int nr), .val (.int fl), .val (.double (FP.i2d (own_len lr))), .second, .val (.int (own_n nr)), .val (.int (fl &&& (3 : Int32))), .val (.int rv), .val (.int lane), .val (.ref b1035), .val (.int (own_n nr)), .unset] [(.int lane)])) _
              exact hh)
            by_cases c154 : lane = 0
            ·
              have k79 : own_K p e below (T1012.setTop (mkF m 178 #[.val (.int lr), .val (.int la), .val (.int nr), .val (.int fl), .val (.double (FP.i2d (own_len lr))), .second, .val (.int (own_n nr)), .val (.int (fl &&& (3 : Int32))), .val (.int rv), .val (.int lane), .val (.ref b1035), .val (.int (own_n nr)), .val (.int rv)] [])) (s₁.setTop (entryFrame m #[(.int lr), (.int la), (.int nr), (.int fl)] maxLocals)) := fun t hh => k78 t (by
                refine XS.ifNo X1031.here hx rfl (hb hby at_154) rfl (own_ifF_ne c154) ?_
                show Steps p.tables e below (T1012.setTop (mkF m 157 #[.val (.int lr), .val (.int la), .val (.int nr), .val (.int fl), .val (.double (FP.i2d (own_len lr))), .second, .val (.int (own_n nr)), .val (.int (fl &&& (3 : Int32))), .val (.int rv), .val (.int lane), .val (.ref b1035), .val (.int (own_n nr)), .unset] [])) _
                refine XS.iload X1031.here hx rfl (hb hby at_157) rfl ?_
                show Steps p.tables e below (T1012.setTop (mkF m 159 #[.val (.int lr), .val (.int la), .val (.int nr), .val (.int fl), .val (.double (FP.i2d (own_len lr))), .second, .val (.int (own_n nr)), .val (.int (fl &&& (3 : Int32))), .val (.int rv), .val (.int lane), .val (.ref b1035), .val (.int (own_n nr)), .unset] [(.int rv)])) _
                refine XS.istore X1031.here hx rfl (hb hby at_159) rfl (l' := #[.val (.int lr), .val (.int la), .val (.int nr), .val (.int fl), .val (.double (FP.i2d (own_len lr))), .second, .val (.int (own_n nr)), .val (.int (fl &&& (3 : Int32))), .val (.int rv), .val (.int lane), .val (.ref b1035), .val (.int (own_n nr)), .val (.int rv)]) rfl ?_
                show Steps p.tables e below (T1012.setTop (mkF m 161 #[.val (.int lr), .val (.int la), .val (.int nr), .val (.int fl), .val (.double (FP.i2d (own_len lr))), .second, .val (.int (own_n nr)), .val (.int (fl &&& (3 : Int32))), .val (.int rv), .val (.int lane), .val (.ref b1035), .val (.int (own_n nr)), .val (.int rv)] [])) _
                refine XS.goto X1031.here hx rfl (pc0 := 161) (pc' := 178) rfl (hb hby at_161) (by decide) (by decide) ?_
                show Steps p.tables e below (T1012.setTop (mkF m 178 #[.val (.int lr), .val (.int la), .val (.int nr), .val (.int fl), .val (.double (FP.i2d (own_len lr))), .second, .val (.int (own_n nr)), .val (.int (fl &&& (3 : Int32))), .val (.int rv), .val (.int lane), .val (.ref b1035), .val (.int (own_n nr)), .val (.int rv)] [])) _
                exact hh)
              exact ⟨rv, (by first | (simp only [own_ex, c143, c154, if_true, if_false]; done) | (simp [own_ex, c143, c154]; done)), k79⟩
            ·
              have k80 : own_K p e below (T1012.setTop (mkF m 168 #[.val (.int lr), .val (.int la), .val (.int nr), .val (.int fl), .val (.double (FP.i2d (own_len lr))), .second, .val (.int (own_n nr)), .val (.int (fl &&& (3 : Int32))), .val (.int rv), .val (.int lane), .val (.ref b1035), .val (.int (own_n nr)), .unset] [(.int (own_n nr)), (.int lane)])) (s₁.setTop (entryFrame m #[(.int lr), (.int la), (.int nr), (.int fl)] maxLocals)) := fun t hh => k78 t (by
                refine XS.ifYes X1031.here hx rfl (pc0 := 154) (pc' := 164) rfl (hb hby at_154) rfl (own_ifT_ne c154) (by decide) (by decide) ?_
                show Steps p.tables e below (T1012.setTop (mkF m 164 #[.val (.int lr), .val (.int la), .val (.int nr), .val (.int fl), .val (.double (FP.i2d (own_len lr))), .second, .val (.int (own_n nr)), .val (.int (fl &&& (3 : Int32))), .val (.int rv), .val (.int lane), .val (.ref b1035), .val (.int (own_n nr)), .unset] [])) _
                refine XS.iload X1031.here hx rfl (hb hby at_164) rfl ?_
                show Steps p.tables e below (T1012.setTop (mkF m 166 #[.val (.int lr), .val (.int la), .val (.int nr), .val (.int fl), .val (.double (FP.i2d (own_len lr))), .second, .val (.int (own_n nr)), .val (.int (fl &&& (3 : Int32))), .val (.int rv), .val (.int lane), .val (.ref b1035), .val (.int (own_n nr)), .unset] [(.int lane)])) _
                refine XS.iload X1031.here hx rfl (hb hby at_166) rfl ?_
                show Steps p.tables e below (T1012.setTop (mkF m 168 #[.val (.int lr), .val (.int la), .val (.int nr), .val (.int fl), .val (.double (FP.i2d (own_len lr))), .second, .val (.int (own_n nr)), .val (.int (fl &&& (3 : Int32))), .val (.int rv), .val (.int lane), .val (.ref b1035), .val (.int (own_n nr)), .unset] [(.int (own_n nr)), (.int lane)])) _
                exact hh)
              by_cases c168 : (own_n nr) < lane
              ·
                have k81 : own_K p e below (T1012.setTop (mkF m 178 #[.val (.int lr), .val (.int la), .val (.int nr), .val (.int fl), .val (.double (FP.i2d (own_len lr))), .second, .val (.int (own_n nr)), .val (.int (fl &&& (3 : Int32))), .val (.int rv), .val (.int lane), .val (.ref b1035), .val (.int (own_n nr)), .val (.int (0 : Int32))] [])) (s₁.setTop (entryFrame m #[(.int lr), (.int la), (.int nr), (.int fl)] maxLocals)) := fun t hh => k80 t (by
                  refine XS.icmpYes X1031.here hx rfl (pc0 := 168) (pc' := 175) rfl (hb hby at_168) rfl (own_icT_gt c168) (by decide) (by decide) ?_
                  show Steps p.tables e below (T1012.setTop (mkF m 175 #[.val (.int lr), .val (.int la), .val (.int nr), .val (.int fl), .val (.double (FP.i2d (own_len lr))), .second, .val (.int (own_n nr)), .val (.int (fl &&& (3 : Int32))), .val (.int rv), .val (.int lane), .val (.ref b1035), .val (.int (own_n nr)), .unset] [])) _
                  refine XS.iconst X1031.here hx rfl (hb hby at_175) ?_
                  show Steps p.tables e below (T1012.setTop (mkF m 176 #[.val (.int lr), .val (.int la), .val (.int nr), .val (.int fl), .val (.double (FP.i2d (own_len lr))), .second, .val (.int (own_n nr)), .val (.int (fl &&& (3 : Int32))), .val (.int rv), .val (.int lane), .val (.ref b1035), .val (.int (own_n nr)), .unset] [(.int (0 : Int32))])) _
                  refine XS.istore X1031.here hx rfl (hb hby at_176) rfl (l' := #[.val (.int lr), .val (.int la), .val (.int nr), .val (.int fl), .val (.double (FP.i2d (own_len lr))), .second, .val (.int (own_n nr)), .val (.int (fl &&& (3 : Int32))), .val (.int rv), .val (.int lane), .val (.ref b1035), .val (.int (own_n nr)), .val (.int (0 : Int32))]) rfl ?_
                  show Steps p.tables e below (T1012.setTop (mkF m 178 #[.val (.int lr), .val (.int la), .val (.int nr), .val (.int fl), .val (.double (FP.i2d (own_len lr))), .second, .val (.int (own_n nr)), .val (.int (fl &&& (3 : Int32))), .val (.int rv), .val (.int lane), .val (.ref b1035), .val (.int (own_n nr)), .val (.int (0 : Int32))] [])) _
                  exact hh)
                exact ⟨(0 : Int32), (by first | (simp only [own_ex, c143, c154, c168, if_true, if_false]; done) | (simp [own_ex, c143, c154, c168]; done)), k81⟩
              ·
                have k82 : own_K p e below (T1012.setTop (mkF m 178 #[.val (.int lr), .val (.int la), .val (.int nr), .val (.int fl), .val (.double (FP.i2d (own_len lr))), .second, .val (.int (own_n nr)), .val (.int (fl &&& (3 : Int32))), .val (.int rv), .val (.int lane), .val (.ref b1035), .val (.int (own_n nr)), .val (.int (1 : Int32))] [])) (s₁.setTop (entryFrame m #[(.int lr), (.int la), (.int nr), (.int fl)] maxLocals)) := fun t hh => k80 t (by
                  refine XS.icmpNo X1031.here hx rfl (hb hby at_168) rfl (own_icF_gt c168) ?_
                  show Steps p.tables e below (T1012.setTop (mkF m 171 #[.val (.int lr), .val (.int la), .val (.int nr), .val (.int fl), .val (.double (FP.i2d (own_len lr))), .second, .val (.int (own_n nr)), .val (.int (fl &&& (3 : Int32))), .val (.int rv), .val (.int lane), .val (.ref b1035), .val (.int (own_n nr)), .unset] [])) _
                  refine XS.iconst X1031.here hx rfl (hb hby at_171) ?_
                  show Steps p.tables e below (T1012.setTop (mkF m 172 #[.val (.int lr), .val (.int la), .val (.int nr), .val (.int fl), .val (.double (FP.i2d (own_len lr))), .second, .val (.int (own_n nr)), .val (.int (fl &&& (3 : Int32))), .val (.int rv), .val (.int lane), .val (.ref b1035), .val (.int (own_n nr)), .unset] [(.int (1 : Int32))])) _
                  refine XS.goto X1031.here hx rfl (pc0 := 172) (pc' := 176) rfl (hb hby at_172) (by decide) (by decide) ?_
                  show Steps p.tables e below (T1012.setTop (mkF m 176 #[.val (.int lr), .val (.int la), .val (.int nr), .val (.int fl), .val (.double (FP.i2d (own_len lr))), .second, .val (.int (own_n nr)), .val (.int (fl &&& (3 : Int32))), .val (.int rv), .val (.int lane), .val (.ref b1035), .val (.int (own_n nr)), .unset] [(.int (1 : Int32))])) _
                  refine XS.istore X1031.here hx rfl (hb hby at_176) rfl (l' := #[.val (.int lr), .val (.int la), .val (.int nr), .val (.int fl), .val (.double (FP.i2d (own_len lr))), .second, .val (.int (own_n nr)), .val (.int (fl &&& (3 : Int32))), .val (.int rv), .val (.int lane), .val (.ref b1035), .val (.int (own_n nr)), .val (.int (1 : Int32))]) rfl ?_
                  show Steps p.tables e below (T1012.setTop (mkF m 178 #[.val (.int lr), .val (.int la), .val (.int nr), .val (.int fl), .val (.double (FP.i2d (own_len lr))), .second, .val (.int (own_n nr)), .val (.int (fl &&& (3 : Int32))), .val (.int rv), .val (.int lane), .val (.ref b1035), .val (.int (own_n nr)), .val (.int (1 : Int32))] [])) _
                  exact hh)
                exact ⟨(1 : Int32), (by first | (simp only [own_ex, c143, c154, c168, if_true, if_false]; done) | (simp [own_ex, c143, c154, c168]; done)), k82⟩
        have k83 : own_K p e below (T1012.setTop (mkF m 182 #[.val (.int lr), .val (.int la), .val (.int nr), .val (.int fl), .val (.double (FP.i2d (own_len lr))), .second, .val (.int (own_n nr)), .val (.int (fl &&& (3 : Int32))), .val (.int rv), .val (.int lane), .val (.ref b1035), .val (.int (own_n nr)), .val (.int ex)] [(.int lane), (.ref b1035)])) (s₁.setTop (entryFrame m #[(.int lr), (.int la), (.int nr), (.int fl)] maxLocals)) := fun t hh => k75 t (by
          refine XS.aload X1031.here hx rfl (hb hby at_178) rfl rfl ?_
          show Steps p.tables e below (T1012.setTop (mkF m 180 #[.val (.int lr), .val (.int la), .val (.int nr), .val (.int fl), .val (.double (FP.i2d (own_len lr))), .second, .val (.int (own_n nr)), .val (.int (fl &&& (3 : Int32))), .val (.int rv), .val (.int lane), .val (.ref b1035), .val (.int (own_n nr)), .val (.int ex)] [(.ref b1035)])) _
          refine XS.iload X1031.here hx rfl (hb hby at_180) rfl ?_
          show Steps p.tables e below (T1012.setTop (mkF m 182 #[.val (.int lr), .val (.int la), .val (.int nr), .val (.int fl), .val (.double (FP.i2d (own_len lr))), .second, .val (.int (own_n nr)), .val (.int (fl &&& (3 : Int32))), .val (.int rv), .val (.int lane), .val (.ref b1035), .val (.int (own_n nr)), .val (.int ex)] [(.int lane), (.ref b1035)])) _
          exact hh)
        obtain ⟨cq1065, kq1066, qa1067, qb1068, qc1069⟩ := isOf hZ1033 e1052 E1039
        obtain ⟨_, _, ⟨T1054, L1055, k_1056, n_1057⟩, -, X1058, ⟨Lc1059, hQ1060, l_1061, y_1062, z_1063⟩, st1064⟩ := X1031.virtualBack hx (y := (⟨"com/example/ample_gap/amplegap/simulation/Road", "hasLane", "(I)Z"⟩ : MethodName)) (z := (⟨"com/example/ample_gap/amplegap/simulation/Road", "hasLane", "(I)Z"⟩ : MethodName)) hown1034 (mvT hZ1033 (wT hw 45 rfl)) (mvT hZ1033 (wT hw 46 rfl)) (notFace_of_selects (args := #[]) (mvT hZ1033 (wT hw 48 rfl))) (mvT hZ1033 (wT hw 48 rfl)) (mvT hZ1033 (wT hw 47 rfl)) (by decide) (backOf (W := 0) (rmH0 l Z a0 hw [] b1035 a967 lane (own_n nr) T1012.heap n0 Z1050 E1039 F1041 F1040) hZ1033 (wT hw 49 rfl) (wT hw 3 rfl) (by decide) (by decide)) qa1067 qc1069 (g := (mkF m 182 #[.val (.int lr), .val (.int la), .val (.int nr), .val (.int fl), .val (.double (FP.i2d (own_len lr))), .second, .val (.int (own_n nr)), .val (.int (fl &&& (3 : Int32))), .val (.int rv), .val (.int lane), .val (.ref b1035), .val (.int (own_n nr)), .val (.int ex)] [(.int lane), (.ref b1035)])) rfl (by rw [hml]; rfl) (Steps.refl _) (argsL := [(.int lane)]) (rest := []) (lenOf own_h17 rfl) rfl (by show 2 * 0 + _ ≤ _; exact Nat.le_of_eq rfl) (hb hby at_182) (fun _ _ => ⟨rfl, e1052, (by decide : 11 + 0 ≤ _), (by decide : 182 + 0 ≤ _)⟩)
        dsimp only [Pt.U, Pt.locs, Pt.cells, Pt.slots] at X1058 l_1061 y_1062 z_1063 st1064 hQ1060
        subst l_1061 y_1062 z_1063
        obtain ⟨rfl, N1070, e1071⟩ := hQ1060
        have N1072 := Fr.app N1042 N1070
        have k84 : own_K p e below (T1054.setTop (mkF m 185 #[.val (.int lr), .val (.int la), .val (.int nr), .val (.int fl), .val (.double (FP.i2d (own_len lr))), .second, .val (.int (own_n nr)), .val (.int (fl &&& (3 : Int32))), .val (.int rv), .val (.int lane), .val (.ref b1035), .val (.int (own_n nr)), .val (.int ex)] [(.int (own_hl lane (0 : Int32) (own_n nr)))])) (s₁.setTop (entryFrame m #[(.int lr), (.int la), (.int nr), (.int fl)] maxLocals)) := fun t hh => k83 t (st1064.trans hh)
        have k85 : own_K p e below (T1054.setTop (mkF m 195 #[.val (.int lr), .val (.int la), .val (.int nr), .val (.int fl), .val (.double (FP.i2d (own_len lr))), .second, .val (.int (own_n nr)), .val (.int (fl &&& (3 : Int32))), .val (.int rv), .val (.int lane), .val (.ref b1035), .val (.int (own_n nr)), .val (.int ex)] [(.int (1 : Int32))])) (s₁.setTop (entryFrame m #[(.int lr), (.int la), (.int nr), (.int fl)] maxLocals)) := fun t hh => k84 t (by
          refine XS.iload X1058.here hx rfl (hb hby at_185) rfl ?_
          show Steps p.tables e below (T1054.setTop (mkF m 187 #[.val (.int lr), .val (.int la), .val (.int nr), .val (.int fl), .val (.double (FP.i2d (own_len lr))), .second, .val (.int (own_n nr)), .val (.int (fl &&& (3 : Int32))), .val (.int rv), .val (.int lane), .val (.ref b1035), .val (.int (own_n nr)), .val (.int ex)] [(.int ex), (.int (own_hl lane (0 : Int32) (own_n nr)))])) _
          refine XS.icmpNo X1058.here hx rfl (hb hby at_187) rfl (own_icF_ne ((own_same1 lane (own_n nr) (own_n_rng nr).1).trans (by rw [hM1053, (hM705.resolve_left c121).1]))) ?_
          show Steps p.tables e below (T1054.setTop (mkF m 190 #[.val (.int lr), .val (.int la), .val (.int nr), .val (.int fl), .val (.double (FP.i2d (own_len lr))), .second, .val (.int (own_n nr)), .val (.int (fl &&& (3 : Int32))), .val (.int rv), .val (.int lane), .val (.ref b1035), .val (.int (own_n nr)), .val (.int ex)] [])) _
          refine XS.iconst X1058.here hx rfl (hb hby at_190) ?_
          show Steps p.tables e below (T1054.setTop (mkF m 191 #[.val (.int lr), .val (.int la), .val (.int nr), .val (.int fl), .val (.double (FP.i2d (own_len lr))), .second, .val (.int (own_n nr)), .val (.int (fl &&& (3 : Int32))), .val (.int rv), .val (.int lane), .val (.ref b1035), .val (.int (own_n nr)), .val (.int ex)] [(.int (1 : Int32))])) _
          refine XS.goto X1058.here hx rfl (pc0 := 191) (pc' := 195) rfl (hb hby at_191) (by decide) (by decide) ?_
          show Steps p.tables e below (T1054.setTop (mkF m 195 #[.val (.int lr), .val (.int la), .val (.int nr), .val (.int fl), .val (.double (FP.i2d (own_len lr))), .second, .val (.int (own_n nr)), .val (.int (fl &&& (3 : Int32))), .val (.int rv), .val (.int lane), .val (.ref b1035), .val (.int (own_n nr)), .val (.int ex)] [(.int (1 : Int32))])) _
          exact hh)
        obtain ⟨fs, hr, hrun, hended, hEnd⟩ := X1058.leaveW hS1032 (by rw [e1071]; exact (Nat.le_refl T1012.heap.size)) (v := some (.int (1 : Int32))) (fun h => by rw [Bd.returns] at h; cases h)
        refine ⟨_, _, k85 _ (retN X1058 hx (t := .boolean) Bd.returns (by simp) (hb hby at_195) hr), hrun, hended, _, _, rfl, ?_, hEnd.1, hEnd.2.1, hEnd.2.2.1, hEnd.2.2.2.mono (by decide) (by decide)⟩
        show QL h0 n0 _ T1054.heap _
        rw [e1071]
        exact ⟨rfl, N1072⟩
    ·
      have k86 : own_K p e below (s₁.setTop (mkF m 110 #[.val (.int lr), .val (.int la), .val (.int nr), .val (.int fl), .val (.double (FP.i2d (own_len lr))), .second, .val (.int (own_n nr)), .val (.int (fl &&& (3 : Int32))), .val (.int rv), .val (.int lane), .unset, .unset, .unset] [(.int (own_n nr)), (.double (FP.i2d (own_len lr)))])) (s₁.setTop (entryFrame m #[(.int lr), (.int la), (.int nr), (.int fl)] maxLocals)) := fun t hh => k51 t (by
        refine XS.icmpYes X0.here hx rfl (pc0 := 83) (pc' := 106) rfl (hb hby at_83) rfl (own_icT_ne c83) (by decide) (by decide) ?_
        show Steps p.tables e below (s₁.setTop (mkF m 106 #[.val (.int lr), .val (.int la), .val (.int nr), .val (.int fl), .val (.double (FP.i2d (own_len lr))), .second, .val (.int (own_n nr)), .val (.int (fl &&& (3 : Int32))), .val (.int rv), .val (.int lane), .unset, .unset, .unset] [])) _
        refine XS.dload X0.here hx rfl (hb hby at_106) rfl ?_
        show Steps p.tables e below (s₁.setTop (mkF m 108 #[.val (.int lr), .val (.int la), .val (.int nr), .val (.int fl), .val (.double (FP.i2d (own_len lr))), .second, .val (.int (own_n nr)), .val (.int (fl &&& (3 : Int32))), .val (.int rv), .val (.int lane), .unset, .unset, .unset] [(.double (FP.i2d (own_len lr)))])) _
        refine XS.iload X0.here hx rfl (hb hby at_108) rfl ?_
        show Steps p.tables e below (s₁.setTop (mkF m 110 #[.val (.int lr), .val (.int la), .val (.int nr), .val (.int fl), .val (.double (FP.i2d (own_len lr))), .second, .val (.int (own_n nr)), .val (.int (fl &&& (3 : Int32))), .val (.int rv), .val (.int lane), .unset, .unset, .unset] [(.int (own_n nr)), (.double (FP.i2d (own_len lr)))])) _
        exact hh)
      obtain ⟨_, _, ⟨T1073, L1074, k_1075, n_1076⟩, -, X1077, hSc1084, hgr1085, ⟨Lc1078, hQ1079, l_1080, y_1081, z_1082⟩, st1083⟩ := callSS X0 hx (y := (⟨"com/example/ample_gap/amplegap/simulation/Road", "ring", "(DI)Lcom/example/ample_gap/amplegap/simulation/Road;"⟩ : MethodName)) hown (mvT hZ (wT hw 55 rfl)) (mvT hZ (wT hw 56 rfl)) (mvT hZ (wT hw 3 rfl)) (mvT hZ (wT hw 57 rfl)) (by decide) (backOfS (W := 0) (rmG l Z a0 hw [] (FP.i2d (own_len lr)) (own_n nr) h0 n0 Z0 (own_no _) (own_fin_le (i2d_fin _)) (own_pos (own_len_rng lr).1) (own_n1 nr) (own_n2 nr)) hZ (wT hw 57 rfl) (wT hw 3 rfl) (by decide) (by decide)) (g := (mkF m 110 #[.val (.int lr), .val (.int la), .val (.int nr), .val (.int fl), .val (.double (FP.i2d (own_len lr))), .second, .val (.int (own_n nr)), .val (.int (fl &&& (3 : Int32))), .val (.int rv), .val (.int lane), .unset, .unset, .unset] [(.int (own_n nr)), (.double (FP.i2d (own_len lr)))])) rfl (by rw [hml]; rfl) (argsL := [(.double (FP.i2d (own_len lr))), (.int (own_n nr))]) (rest := []) (lenOf own_h19 rfl) rfl (by show 2 * 0 + _ ≤ _; exact Nat.le_of_eq rfl) (hb hby at_110) (fun _ _ => ⟨rfl, e0, (by decide : 0 + 3 ≤ _), (by decide : 0 + 80 ≤ _)⟩)
      dsimp only [Pt.U, Pt.locs, Pt.cells, Pt.slots] at X1077 hSc1084 hgr1085 l_1080 y_1081 z_1082 st1083 hQ1079
      subst l_1080 y_1081 z_1082
      obtain ⟨X1087, hS1088, hZ1089, hown1090⟩ := rebS hS0 (by rw [e0]; exact hk0) X1077 hSc1084 hgr1085 hZ hown
      obtain ⟨b1091, rfl, N1092, K1093, G1094, E1095, F1096, F1097⟩ := hQ1079
      have N1098 := Fr.app N0 N1092
      have Z1099 : n0 ≤ T1073.heap.size := Nat.le_trans Z0 K1093.1
      have hk1100 := Nat.le_trans hk0 (show h0.size ≤ T1073.heap.size from K1093.1)
      have e1101 : T1073.heap = T1073.heap := rfl
      have k87 : own_K p e below (T1073.setTop (mkF m 113 #[.val (.int lr), .val (.int la), .val (.int nr), .val (.int fl), .val (.double (FP.i2d (own_len lr))), .second, .val (.int (own_n nr)), .val (.int (fl &&& (3 : Int32))), .val (.int rv), .val (.int lane), .unset, .unset, .unset] [(.ref b1091)])) (s₁.setTop (entryFrame m #[(.int lr), (.int la), (.int nr), (.int fl)] maxLocals)) := fun t hh => k86 t (st1083.trans hh)
      have k88 : own_K p e below (T1073.setTop (mkF m 121 #[.val (.int lr), .val (.int la), .val (.int nr), .val (.int fl), .val (.double (FP.i2d (own_len lr))), .second, .val (.int (own_n nr)), .val (.int (fl &&& (3 : Int32))), .val (.int rv), .val (.int lane), .val (.ref b1091), .val (.int (own_n nr)), .unset] [(.int rv)])) (s₁.setTop (entryFrame m #[(.int lr), (.int la), (.int nr), (.int fl)] maxLocals)) := fun t hh => k87 t (by
        refine XS.astore X1087.here hx rfl (hb hby at_113) rfl rfl (l' := #[.val (.int lr), .val (.int la), .val (.int nr), .val (.int fl), .val (.double (FP.i2d (own_len lr))), .second, .val (.int (own_n nr)), .val (.int (fl &&& (3 : Int32))), .val (.int rv), .val (.int lane), .val (.ref b1091), .unset, .unset]) rfl ?_
        show Steps p.tables e below (T1073.setTop (mkF m 115 #[.val (.int lr), .val (.int la), .val (.int nr), .val (.int fl), .val (.double (FP.i2d (own_len lr))), .second, .val (.int (own_n nr)), .val (.int (fl &&& (3 : Int32))), .val (.int rv), .val (.int lane), .val (.ref b1091), .unset, .unset] [])) _
        refine XS.iload X1087.here hx rfl (hb hby at_115) rfl ?_
        show Steps p.tables e below (T1073.setTop (mkF m 117 #[.val (.int lr), .val (.int la), .val (.int nr), .val (.int fl), .val (.double (FP.i2d (own_len lr))), .second, .val (.int (own_n nr)), .val (.int (fl &&& (3 : Int32))), .val (.int rv), .val (.int lane), .val (.ref b1091), .unset, .unset] [(.int (own_n nr))])) _
        refine XS.istore X1087.here hx rfl (hb hby at_117) rfl (l' := #[.val (.int lr), .val (.int la), .val (.int nr), .val (.int fl), .val (.double (FP.i2d (own_len lr))), .second, .val (.int (own_n nr)), .val (.int (fl &&& (3 : Int32))), .val (.int rv), .val (.int lane), .val (.ref b1091), .val (.int (own_n nr)), .unset]) rfl ?_
        show Steps p.tables e below (T1073.setTop (mkF m 119 #[.val (.int lr), .val (.int la), .val (.int nr), .val (.int fl), .val (.double (FP.i2d (own_len lr))), .second, .val (.int (own_n nr)), .val (.int (fl &&& (3 : Int32))), .val (.int rv), .val (.int lane), .val (.ref b1091), .val (.int (own_n nr)), .unset] [])) _
        refine XS.iload X1087.here hx rfl (hb hby at_119) rfl ?_
        show Steps p.tables e below (T1073.setTop (mkF m 121 #[.val (.int lr), .val (.int la), .val (.int nr), .val (.int fl), .val (.double (FP.i2d (own_len lr))), .second, .val (.int (own_n nr)), .val (.int (fl &&& (3 : Int32))), .val (.int rv), .val (.int lane), .val (.ref b1091), .val (.int (own_n nr)), .unset] [(.int rv)])) _
        exact hh)
      by_cases c121 : rv = 0
      ·
        have k89 : own_K p e below (T1073.setTop (mkF m 141 #[.val (.int lr), .val (.int la), .val (.int nr), .val (.int fl), .val (.double (FP.i2d (own_len lr))), .second, .val (.int (own_n nr)), .val (.int (fl &&& (3 : Int32))), .val (.int rv), .val (.int lane), .val (.ref b1091), .val (.int (own_n nr)), .unset] [])) (s₁.setTop (entryFrame m #[(.int lr), (.int la), (.int nr), (.int fl)] maxLocals)) := fun t hh => k88 t (by
          refine XS.ifYes X1087.here hx rfl (pc0 := 121) (pc' := 141) rfl (hb hby at_121) rfl (own_ifT_eq c121) (by decide) (by decide) ?_
          show Steps p.tables e below (T1073.setTop (mkF m 141 #[.val (.int lr), .val (.int la), .val (.int nr), .val (.int fl), .val (.double (FP.i2d (own_len lr))), .second, .val (.int (own_n nr)), .val (.int (fl &&& (3 : Int32))), .val (.int rv), .val (.int lane), .val (.ref b1091), .val (.int (own_n nr)), .unset] [])) _
          exact hh)
        obtain ⟨ex, hM1102, k90⟩ : ∃ ex : Int32, (ex = own_ex lane rv (own_n nr)) ∧ own_K p e below (T1073.setTop (mkF m 178 #[.val (.int lr), .val (.int la), .val (.int nr), .val (.int fl), .val (.double (FP.i2d (own_len lr))), .second, .val (.int (own_n nr)), .val (.int (fl &&& (3 : Int32))), .val (.int rv), .val (.int lane), .val (.ref b1091), .val (.int (own_n nr)), .val (.int ex)] [])) (s₁.setTop (entryFrame m #[(.int lr), (.int la), (.int nr), (.int fl)] maxLocals)) := by
          have k91 : own_K p e below (T1073.setTop (mkF m 143 #[.val (.int lr), .val (.int la), .val (.int nr), .val (.int fl), .val (.double (FP.i2d (own_len lr))), .second, .val (.int (own_n nr)), .val (.int (fl &&& (3 : Int32))), .val (.int rv), .val (.int lane), .val (.ref b1091), .val (.int (own_n nr)), .unset] [(.int lane)])) (s₁.setTop (entryFrame m #[(.int lr), (.int la), (.int nr), (.int fl)] maxLocals)) := fun t hh => k89 t (by
            refine XS.iload X1087.here hx rfl (hb hby at_141) rfl ?_
            show Steps p.tables e below (T1073.setTop (mkF m 143 #[.val (.int lr), .val (.int la), .val (.int nr), .val (.int fl), .val (.double (FP.i2d (own_len lr))), .second, .val (.int (own_n nr)), .val (.int (fl &&& (3 : Int32))), .val (.int rv), .val (.int lane), .val (.ref b1091), .val (.int (own_n nr)), .unset] [(.int lane)])) _
            exact hh)
          by_cases c143 : lane < 0
          ·
            have k92 : own_K p e below (T1073.setTop (mkF m 178 #[.val (.int lr), .val (.int la), .val (.int nr), .val (.int fl), .val (.double (FP.i2d (own_len lr))), .second, .val (.int (own_n nr)), .val (.int (fl &&& (3 : Int32))), .val (.int rv), .val (.int lane), .val (.ref b1091), .val (.int (own_n nr)), .val (.int (0 : Int32))] [])) (s₁.setTop (entryFrame m #[(.int lr), (.int la), (.int nr), (.int fl)] maxLocals)) := fun t hh => k91 t (by
              refine XS.ifNo X1087.here hx rfl (hb hby at_143) rfl (own_ifF_ge c143) ?_
              show Steps p.tables e below (T1073.setTop (mkF m 146 #[.val (.int lr), .val (.int la), .val (.int nr), .val (.int fl), .val (.double (FP.i2d (own_len lr))), .second, .val (.int (own_n nr)), .val (.int (fl &&& (3 : Int32))), .val (.int rv), .val (.int lane), .val (.ref b1091), .val (.int (own_n nr)), .unset] [])) _
              refine XS.iconst X1087.here hx rfl (hb hby at_146) ?_
              show Steps p.tables e below (T1073.setTop (mkF m 147 #[.val (.int lr), .val (.int la), .val (.int nr), .val (.int fl), .val (.double (FP.i2d (own_len lr))), .second, .val (.int (own_n nr)), .val (.int (fl &&& (3 : Int32))), .val (.int rv), .val (.int lane), .val (.ref b1091), .val (.int (own_n nr)), .unset] [(.int (0 : Int32))])) _
              refine XS.istore X1087.here hx rfl (hb hby at_147) rfl (l' := #[.val (.int lr), .val (.int la), .val (.int nr), .val (.int fl), .val (.double (FP.i2d (own_len lr))), .second, .val (.int (own_n nr)), .val (.int (fl &&& (3 : Int32))), .val (.int rv), .val (.int lane), .val (.ref b1091), .val (.int (own_n nr)), .val (.int (0 : Int32))]) rfl ?_
              show Steps p.tables e below (T1073.setTop (mkF m 149 #[.val (.int lr), .val (.int la), .val (.int nr), .val (.int fl), .val (.double (FP.i2d (own_len lr))), .second, .val (.int (own_n nr)), .val (.int (fl &&& (3 : Int32))), .val (.int rv), .val (.int lane), .val (.ref b1091), .val (.int (own_n nr)), .val (.int (0 : Int32))] [])) _
              refine XS.goto X1087.here hx rfl (pc0 := 149) (pc' := 178) rfl (hb hby at_149) (by decide) (by decide) ?_
              show Steps p.tables e below (T1073.setTop (mkF m 178 #[.val (.int lr), .val (.int la), .val (.int nr), .val (.int fl), .val (.double (FP.i2d (own_len lr))), .second, .val (.int (own_n nr)), .val (.int (fl &&& (3 : Int32))), .val (.int rv), .val (.int lane), .val (.ref b1091), .val (.int (own_n nr)), .val (.int (0 : Int32))] [])) _
              exact hh)
            exact ⟨(0 : Int32), (by first | (simp only [own_ex, c143, if_true, if_false]; done) | (simp [own_ex, c143]; done)), k92⟩
          ·
            have k93 : own_K p e below (T1073.setTop (mkF m 154 #[.val (.int lr), .val (.int la), .val (.int nr), .val (.int fl), .val (.double (FP.i2d (own_len lr))), .second, .val (.int (own_n nr)), .val (.int (fl &&& (3 : Int32))), .val (.int rv), .val (.int lane), .val (.ref b1091), .val (.int (own_n nr)), .unset] [(.int lane)])) (s₁.setTop (entryFrame m #[(.int lr), (.int la), (.int nr), (.int fl)] maxLocals)) := fun t hh => k91 t (by
              refine XS.ifYes X1087.here hx rfl (pc0 := 143) (pc' := 152) rfl (hb hby at_143) rfl (own_ifT_ge c143) (by decide) (by decide) ?_
              show Steps p.tables e below (T1073.setTop (mkF m 152 #[.val (.int lr), .val (.int la), .val (.int nr), .val (.int fl), .val (.double (FP.i2d (own_len lr))), .second, .val (.int (own_n nr)), .val (.int (fl &&& (3 : Int32))), .val (.int rv), .val (.int lane), .val (.ref b1091), .val (.int (own_n nr)), .unset] [])) _
              refine XS.iload X1087.here hx rfl (hb hby at_152) rfl ?_
              show Steps p.tables e below (T1073.setTop (mkF m 154 #[.val (.int lr), .val (.int la), .val (.int nr), .val (.int fl), .val (.double (FP.i2d (own_len lr))), .second, .val (.int (own_n nr)), .val (.int (fl &&& (3 : Int32))), .val (.int rv), .val (.int lane), .val (.ref b1091), .val (.int (own_n nr)), .unset] [(.int lane)])) _
              exact hh)
            by_cases c154 : lane = 0
            ·
              have k94 : own_K p e below (T1073.setTop (mkF m 178 #[.val (.int lr), .val (.int la), .val (.int nr), .val (.int fl), .val (.double (FP.i2d (own_len lr))), .second, .val (.int (own_n nr)), .val (.int (fl &&& (3 : Int32))), .val (.int rv), .val (.int lane), .val (.ref b1091), .val (.int (own_n nr)), .val (.int rv)] [])) (s₁.setTop (entryFrame m #[(.int lr), (.int la), (.int nr), (.int fl)] maxLocals)) := fun t hh => k93 t (by
                refine XS.ifNo X1087.here hx rfl (hb hby at_154) rfl (own_ifF_ne c154) ?_
                show Steps p.tables e below (T1073.setTop (mkF m 157 #[.val (.int lr), .val (.int la), .val (.int nr), .val (.int fl), .val (.double (FP.i2d (own_len lr))), .second, .val (.int (own_n nr)), .val (.int (fl &&& (3 : Int32))), .val (.int rv), .val (.int lane), .val (.ref b1091), .val (.int (own_n nr)), .unset] [])) _
                refine XS.iload X1087.here hx rfl (hb hby at_157) rfl ?_
                show Steps p.tables e below (T1073.setTop (mkF m 159 #[.val (.int lr), .val (.int la), .val (.int nr), .val (.int fl), .val (.double (FP.i2d (own_len lr))), .second, .val (.int (own_n nr)), .val (.int (fl &&& (3 : Int32))), .val (.int rv), .val (.int lane), .val (.ref b1091), .val (.int (own_n nr)), .unset] [(.int rv)])) _
                refine XS.istore X1087.here hx rfl (hb hby at_159) rfl (l' := #[.val (.int lr), .val (.int la), .val (.int nr), .val (.int fl), .val (.double (FP.i2d (own_len lr))), .second, .val (.int (own_n nr)), .val (.int (fl &&& (3 : Int32))), .val (.int rv), .val (.int lane), .val (.ref b1091), .val (.int (own_n nr)), .val (.int rv)]) rfl ?_
                show Steps p.tables e below (T1073.setTop (mkF m 161 #[.val (.int lr), .val (.int la), .val (.int nr), .val (.int fl), .val (.double (FP.i2d (own_len lr))), .second, .val (.int (own_n nr)), .val (.int (fl &&& (3 : Int32))), .val (.int rv), .val (.int lane), .val (.ref b1091), .val (.int (own_n nr)), .val (.int rv)] [])) _
                refine XS.goto X1087.here hx rfl (pc0 := 161) (pc' := 178) rfl (hb hby at_161) (by decide) (by decide) ?_
                show Steps p.tables e below (T1073.setTop (mkF m 178 #[.val (.int lr), .val (.int la), .val (.int nr), .val (.int fl), .val (.double (FP.i2d (own_len lr))), .second, .val (.int (own_n nr)), .val (.int (fl &&& (3 : Int32))), .val (.int rv), .val (.int lane), .val (.ref b1091), .val (.int (own_n nr)), .val (.int rv)] [])) _
                exact hh)
              exact ⟨rv, (by first | (simp only [own_ex, c143, c154, if_true, if_false]; done) | (simp [own_ex, c143, c154]; done)), k94⟩
            ·
              have k95 : own_K p e below (T1073.setTop (mkF m 168 #[.val (.int lr), .val (.int la), .val (.int nr), .val (.int fl), .val (.double (FP.i2d (own_len lr))), .second, .val (.int (own_n nr)), .val (.int (fl &&& (3 : Int32))), .val (.int rv), .val (.int lane), .val (.ref b1091), .val (.int (own_n nr)), .unset] [(.int (own_n nr)), (.int lane)])) (s₁.setTop (entryFrame m #[(.int lr), (.int la), (.int nr), (.int fl)] maxLocals)) := fun t hh => k93 t (by
                refine XS.ifYes X1087.here hx rfl (pc0 := 154) (pc' := 164) rfl (hb hby at_154) rfl (own_ifT_ne c154) (by decide) (by decide) ?_
                show Steps p.tables e below (T1073.setTop (mkF m 164 #[.val (.int lr), .val (.int la), .val (.int nr), .val (.int fl), .val (.double (FP.i2d (own_len lr))), .second, .val (.int (own_n nr)), .val (.int (fl &&& (3 : Int32))), .val (.int rv), .val (.int lane), .val (.ref b1091), .val (.int (own_n nr)), .unset] [])) _
                refine XS.iload X1087.here hx rfl (hb hby at_164) rfl ?_
                show Steps p.tables e below (T1073.setTop (mkF m 166 #[.val (.int lr), .val (.int la), .val (.int nr), .val (.int fl), .val (.double (FP.i2d (own_len lr))), .second, .val (.int (own_n nr)), .val (.int (fl &&& (3 : Int32))), .val (.int rv), .val (.int lane), .val (.ref b1091), .val (.int (own_n nr)), .unset] [(.int lane)])) _
                refine XS.iload X1087.here hx rfl (hb hby at_166) rfl ?_
                show Steps p.tables e below (T1073.setTop (mkF m 168 #[.val (.int lr), .val (.int la), .val (.int nr), .val (.int fl), .val (.double (FP.i2d (own_len lr))), .second, .val (.int (own_n nr)), .val (.int (fl &&& (3 : Int32))), .val (.int rv), .val (.int lane), .val (.ref b1091), .val (.int (own_n nr)), .unset] [(.int (own_n nr)), (.int lane)])) _
                exact hh)
              by_cases c168 : (own_n nr) < lane
              ·
                have k96 : own_K p e below (T1073.setTop (mkF m 178 #[.val (.int lr), .val (.int la), .val (.int nr), .val (.int fl), .val (.double (FP.i2d (own_len lr))), .second, .val (.int (own_n nr)), .val (.int (fl &&& (3 : Int32))), .val (.int rv), .val (.int lane), .val (.ref b1091), .val (.int (own_n nr)), .val (.int (0 : Int32))] [])) (s₁.setTop (entryFrame m #[(.int lr), (.int la), (.int nr), (.int fl)] maxLocals)) := fun t hh => k95 t (by
                  refine XS.icmpYes X1087.here hx rfl (pc0 := 168) (pc' := 175) rfl (hb hby at_168) rfl (own_icT_gt c168) (by decide) (by decide) ?_
                  show Steps p.tables e below (T1073.setTop (mkF m 175 #[.val (.int lr), .val (.int la), .val (.int nr), .val (.int fl), .val (.double (FP.i2d (own_len lr))), .second, .val (.int (own_n nr)), .val (.int (fl &&& (3 : Int32))), .val (.int rv), .val (.int lane), .val (.ref b1091), .val (.int (own_n nr)), .unset] [])) _
                  refine XS.iconst X1087.here hx rfl (hb hby at_175) ?_
                  show Steps p.tables e below (T1073.setTop (mkF m 176 #[.val (.int lr), .val (.int la), .val (.int nr), .val (.int fl), .val (.double (FP.i2d (own_len lr))), .second, .val (.int (own_n nr)), .val (.int (fl &&& (3 : Int32))), .val (.int rv), .val (.int lane), .val (.ref b1091), .val (.int (own_n nr)), .unset] [(.int (0 : Int32))])) _
                  refine XS.istore X1087.here hx rfl (hb hby at_176) rfl (l' := #[.val (.int lr), .val (.int la), .val (.int nr), .val (.int fl), .val (.double (FP.i2d (own_len lr))), .second, .val (.int (own_n nr)), .val (.int (fl &&& (3 : Int32))), .val (.int rv), .val (.int lane), .val (.ref b1091), .val (.int (own_n nr)), .val (.int (0 : Int32))]) rfl ?_
                  show Steps p.tables e below (T1073.setTop (mkF m 178 #[.val (.int lr), .val (.int la), .val (.int nr), .val (.int fl), .val (.double (FP.i2d (own_len lr))), .second, .val (.int (own_n nr)), .val (.int (fl &&& (3 : Int32))), .val (.int rv), .val (.int lane), .val (.ref b1091), .val (.int (own_n nr)), .val (.int (0 : Int32))] [])) _
                  exact hh)
                exact ⟨(0 : Int32), (by first | (simp only [own_ex, c143, c154, c168, if_true, if_false]; done) | (simp [own_ex, c143, c154, c168]; done)), k96⟩
              ·
                have k97 : own_K p e below (T1073.setTop (mkF m 178 #[.val (.int lr), .val (.int la), .val (.int nr), .val (.int fl), .val (.double (FP.i2d (own_len lr))), .second, .val (.int (own_n nr)), .val (.int (fl &&& (3 : Int32))), .val (.int rv), .val (.int lane), .val (.ref b1091), .val (.int (own_n nr)), .val (.int (1 : Int32))] [])) (s₁.setTop (entryFrame m #[(.int lr), (.int la), (.int nr), (.int fl)] maxLocals)) := fun t hh => k95 t (by
                  refine XS.icmpNo X1087.here hx rfl (hb hby at_168) rfl (own_icF_gt c168) ?_
                  show Steps p.tables e below (T1073.setTop (mkF m 171 #[.val (.int lr), .val (.int la), .val (.int nr), .val (.int fl), .val (.double (FP.i2d (own_len lr))), .second, .val (.int (own_n nr)), .val (.int (fl &&& (3 : Int32))), .val (.int rv), .val (.int lane), .val (.ref b1091), .val (.int (own_n nr)), .unset] [])) _
                  refine XS.iconst X1087.here hx rfl (hb hby at_171) ?_
                  show Steps p.tables e below (T1073.setTop (mkF m 172 #[.val (.int lr), .val (.int la), .val (.int nr), .val (.int fl), .val (.double (FP.i2d (own_len lr))), .second, .val (.int (own_n nr)), .val (.int (fl &&& (3 : Int32))), .val (.int rv), .val (.int lane), .val (.ref b1091), .val (.int (own_n nr)), .unset] [(.int (1 : Int32))])) _
                  refine XS.goto X1087.here hx rfl (pc0 := 172) (pc' := 176) rfl (hb hby at_172) (by decide) (by decide) ?_
                  show Steps p.tables e below (T1073.setTop (mkF m 176 #[.val (.int lr), .val (.int la), .val (.int nr), .val (.int fl), .val (.double (FP.i2d (own_len lr))), .second, .val (.int (own_n nr)), .val (.int (fl &&& (3 : Int32))), .val (.int rv), .val (.int lane), .val (.ref b1091), .val (.int (own_n nr)), .unset] [(.int (1 : Int32))])) _
                  refine XS.istore X1087.here hx rfl (hb hby at_176) rfl (l' := #[.val (.int lr), .val (.int la), .val (.int nr), .val (.int fl), .val (.double (FP.i2d (own_len lr))), .second, .val (.int (own_n nr)), .val (.int (fl &&& (3 : Int32))), .val (.int rv), .val (.int lane), .val (.ref b1091), .val (.int (own_n nr)), .val (.int (1 : Int32))]) rfl ?_
                  show Steps p.tables e below (T1073.setTop (mkF m 178 #[.val (.int lr), .val (.int la), .val (.int nr), .val (.int fl), .val (.double (FP.i2d (own_len lr))), .second, .val (.int (own_n nr)), .val (.int (fl &&& (3 : Int32))), .val (.int rv), .val (.int lane), .val (.ref b1091), .val (.int (own_n nr)), .val (.int (1 : Int32))] [])) _
                  exact hh)
                exact ⟨(1 : Int32), (by first | (simp only [own_ex, c143, c154, c168, if_true, if_false]; done) | (simp [own_ex, c143, c154, c168]; done)), k97⟩
        have k98 : own_K p e below (T1073.setTop (mkF m 182 #[.val (.int lr), .val (.int la), .val (.int nr), .val (.int fl), .val (.double (FP.i2d (own_len lr))), .second, .val (.int (own_n nr)), .val (.int (fl &&& (3 : Int32))), .val (.int rv), .val (.int lane), .val (.ref b1091), .val (.int (own_n nr)), .val (.int ex)] [(.int lane), (.ref b1091)])) (s₁.setTop (entryFrame m #[(.int lr), (.int la), (.int nr), (.int fl)] maxLocals)) := fun t hh => k90 t (by
          refine XS.aload X1087.here hx rfl (hb hby at_178) rfl rfl ?_
          show Steps p.tables e below (T1073.setTop (mkF m 180 #[.val (.int lr), .val (.int la), .val (.int nr), .val (.int fl), .val (.double (FP.i2d (own_len lr))), .second, .val (.int (own_n nr)), .val (.int (fl &&& (3 : Int32))), .val (.int rv), .val (.int lane), .val (.ref b1091), .val (.int (own_n nr)), .val (.int ex)] [(.ref b1091)])) _
          refine XS.iload X1087.here hx rfl (hb hby at_180) rfl ?_
          show Steps p.tables e below (T1073.setTop (mkF m 182 #[.val (.int lr), .val (.int la), .val (.int nr), .val (.int fl), .val (.double (FP.i2d (own_len lr))), .second, .val (.int (own_n nr)), .val (.int (fl &&& (3 : Int32))), .val (.int rv), .val (.int lane), .val (.ref b1091), .val (.int (own_n nr)), .val (.int ex)] [(.int lane), (.ref b1091)])) _
          exact hh)
        obtain ⟨cq1114, kq1115, qa1116, qb1117, qc1118⟩ := isOf hZ1089 e1101 E1095
        obtain ⟨_, _, ⟨T1103, L1104, k_1105, n_1106⟩, -, X1107, ⟨Lc1108, hQ1109, l_1110, y_1111, z_1112⟩, st1113⟩ := X1087.virtualBack hx (y := (⟨"com/example/ample_gap/amplegap/simulation/Road", "hasLane", "(I)Z"⟩ : MethodName)) (z := (⟨"com/example/ample_gap/amplegap/simulation/Road", "hasLane", "(I)Z"⟩ : MethodName)) hown1090 (mvT hZ1089 (wT hw 45 rfl)) (mvT hZ1089 (wT hw 46 rfl)) (notFace_of_selects (args := #[]) (mvT hZ1089 (wT hw 48 rfl))) (mvT hZ1089 (wT hw 48 rfl)) (mvT hZ1089 (wT hw 47 rfl)) (by decide) (backOf (W := 0) (rmH1 l Z a0 hw [] b1091 lane (own_n nr) T1073.heap n0 Z1099 E1095 F1097 F1096) hZ1089 (wT hw 49 rfl) (wT hw 3 rfl) (by decide) (by decide)) qa1116 qc1118 (g := (mkF m 182 #[.val (.int lr), .val (.int la), .val (.int nr), .val (.int fl), .val (.double (FP.i2d (own_len lr))), .second, .val (.int (own_n nr)), .val (.int (fl &&& (3 : Int32))), .val (.int rv), .val (.int lane), .val (.ref b1091), .val (.int (own_n nr)), .val (.int ex)] [(.int lane), (.ref b1091)])) rfl (by rw [hml]; rfl) (Steps.refl _) (argsL := [(.int lane)]) (rest := []) (lenOf own_h17 rfl) rfl (by show 2 * 0 + _ ≤ _; exact Nat.le_of_eq rfl) (hb hby at_182) (fun _ _ => ⟨rfl, e1101, (by decide : 3 + 0 ≤ _), (by decide : 80 + 0 ≤ _)⟩)
        dsimp only [Pt.U, Pt.locs, Pt.cells, Pt.slots] at X1107 l_1110 y_1111 z_1112 st1113 hQ1109
        subst l_1110 y_1111 z_1112
        obtain ⟨rfl, N1119, e1120⟩ := hQ1109
        have N1121 := Fr.app N1098 N1119
        have k99 : own_K p e below (T1103.setTop (mkF m 185 #[.val (.int lr), .val (.int la), .val (.int nr), .val (.int fl), .val (.double (FP.i2d (own_len lr))), .second, .val (.int (own_n nr)), .val (.int (fl &&& (3 : Int32))), .val (.int rv), .val (.int lane), .val (.ref b1091), .val (.int (own_n nr)), .val (.int ex)] [(.int (own_hl lane (1 : Int32) (own_n nr)))])) (s₁.setTop (entryFrame m #[(.int lr), (.int la), (.int nr), (.int fl)] maxLocals)) := fun t hh => k98 t (st1113.trans hh)
        have k100 : own_K p e below (T1103.setTop (mkF m 195 #[.val (.int lr), .val (.int la), .val (.int nr), .val (.int fl), .val (.double (FP.i2d (own_len lr))), .second, .val (.int (own_n nr)), .val (.int (fl &&& (3 : Int32))), .val (.int rv), .val (.int lane), .val (.ref b1091), .val (.int (own_n nr)), .val (.int ex)] [(.int (1 : Int32))])) (s₁.setTop (entryFrame m #[(.int lr), (.int la), (.int nr), (.int fl)] maxLocals)) := fun t hh => k99 t (by
          refine XS.iload X1107.here hx rfl (hb hby at_185) rfl ?_
          show Steps p.tables e below (T1103.setTop (mkF m 187 #[.val (.int lr), .val (.int la), .val (.int nr), .val (.int fl), .val (.double (FP.i2d (own_len lr))), .second, .val (.int (own_n nr)), .val (.int (fl &&& (3 : Int32))), .val (.int rv), .val (.int lane), .val (.ref b1091), .val (.int (own_n nr)), .val (.int ex)] [(.int ex), (.int (own_hl lane (1 : Int32) (own_n nr)))])) _
          refine XS.icmpNo X1107.here hx rfl (hb hby at_187) rfl (own_icF_ne ((own_same0 lane (own_n nr) (own_n_rng nr).1).trans (by rw [hM1102, c121]))) ?_
          show Steps p.tables e below (T1103.setTop (mkF m 190 #[.val (.int lr), .val (.int la), .val (.int nr), .val (.int fl), .val (.double (FP.i2d (own_len lr))), .second, .val (.int (own_n nr)), .val (.int (fl &&& (3 : Int32))), .val (.int rv), .val (.int lane), .val (.ref b1091), .val (.int (own_n nr)), .val (.int ex)] [])) _
          refine XS.iconst X1107.here hx rfl (hb hby at_190) ?_
          show Steps p.tables e below (T1103.setTop (mkF m 191 #[.val (.int lr), .val (.int la), .val (.int nr), .val (.int fl), .val (.double (FP.i2d (own_len lr))), .second, .val (.int (own_n nr)), .val (.int (fl &&& (3 : Int32))), .val (.int rv), .val (.int lane), .val (.ref b1091), .val (.int (own_n nr)), .val (.int ex)] [(.int (1 : Int32))])) _
          refine XS.goto X1107.here hx rfl (pc0 := 191) (pc' := 195) rfl (hb hby at_191) (by decide) (by decide) ?_
          show Steps p.tables e below (T1103.setTop (mkF m 195 #[.val (.int lr), .val (.int la), .val (.int nr), .val (.int fl), .val (.double (FP.i2d (own_len lr))), .second, .val (.int (own_n nr)), .val (.int (fl &&& (3 : Int32))), .val (.int rv), .val (.int lane), .val (.ref b1091), .val (.int (own_n nr)), .val (.int ex)] [(.int (1 : Int32))])) _
          exact hh)
        obtain ⟨fs, hr, hrun, hended, hEnd⟩ := X1107.leaveW hS1088 (by rw [e1120]; exact (Nat.le_refl T1073.heap.size)) (v := some (.int (1 : Int32))) (fun h => by rw [Bd.returns] at h; cases h)
        refine ⟨_, _, k100 _ (retN X1107 hx (t := .boolean) Bd.returns (by simp) (hb hby at_195) hr), hrun, hended, _, _, rfl, ?_, hEnd.1, hEnd.2.1, hEnd.2.2.1, hEnd.2.2.2.mono (by decide) (by decide)⟩
        show QL h0 n0 _ T1103.heap _
        rw [e1120]
        exact ⟨rfl, N1121⟩
      ·
        exact absurd (hM705.resolve_left c121).2 (fun q => own_dead c60 c83 q)
set_option maxRecDepth 65536 in
set_option maxHeartbeats 40000000 in
theorem comes_1 {Post : Tables → Env → Array Value → State → Outcome → State → Prop} (hpost : ∀ tb e args s v u, (limb_1_1.after args s (.returned v) u = true ∧ limb_1_2.after args s (.returned v) u = true ∧ True) → ReturnedEndW s (.returned v) u (Jvm.fieldLocs frame_1_writes args s ++ Jvm.arrayLocs frame_1_arrays args s ++ Jvm.staticLocs frame_1_statics s) 24 5248 → Post tb e args s (.returned v) u) :
    ArmFor flags0 classFile x code maxLocals ret World_1 tables_1 room_1 Calls_1 rest_1 Pre_1 Post := by
  intro l hfl _ _ p e ha hc hk s m args below hf hA hF happ hP
  obtain ⟨hcalls, hrest, hpre⟩ := hP
  obtain ⟨-, -, -, hnamed, -, -, -, hat⟩ := (Spec.applies_iff hf).mp happ
  obtain ⟨hg, hn⟩ := and_e (Cond.before_iff.mp (show (Jvm.Cond.and given_1 narrow_1).before args s = true from hpre))
  obtain ⟨h1, g0⟩ := and_e hg
  obtain ⟨j0, g1⟩ := and_e g0
  obtain ⟨j1, g2⟩ := and_e g1
  obtain ⟨j2, g3⟩ := and_e g2
  have j3 := g3
  obtain ⟨w0, w1, w2, w3, rfl⟩ : ∃ w0 w1 w2 w3 : Value, args = #[w0, w1, w2, w3] := by
    have hs : args.size = 4 := by simpa [Cond.value, given_1] using h1
    obtain ⟨L⟩ := args
    match L, hs with
    | [w0, w1, w2, w3], _ => exact ⟨w0, w1, w2, w3, rfl⟩
  have hw := fun d (hd : d ∈ tables_1) => atoms_spec (ws := Jvm.Cond.code x code maxLocals ret :: tables_1) hat d (List.mem_cons_of_mem _ hd)
  have hfit : Fit s := fun {y c} hc i hi => by
    obtain ⟨ha, rfl⟩ := Array.getElem?_eq_some_iff.mp hc
    have q := List.all_eq_true.mp ((Array.all_eq_true_iff_forall_mem.mp hF) _ (Array.getElem_mem ha)) i (List.mem_range.mpr hi)
    simpa [Array.getElem?_eq_getElem hi] using q
  obtain ⟨i0, q0⟩ := is_v j0
  obtain rfl : w0 = (.int i0) := Option.some.inj q0
  obtain ⟨i1, q1⟩ := is_v j1
  obtain rfl : w1 = (.int i1) := Option.some.inj q1
  obtain ⟨i2, q2⟩ := is_v j2
  obtain rfl : w2 = (.int i2) := Option.some.inj q2
  obtain ⟨i3, q3⟩ := is_v j3
  obtain rfl : w3 = (.int i3) := Option.some.inj q3
  obtain ⟨n, o, h1, h2, h3, _, L, rfl, ⟨rfl, N⟩, hq⟩ := rmL l s _ hw tables_1 i0 i1 i2 i3 s.heap s.heap.size (Nat.le_refl _)  p e ha hc hk s m _ below hf ((Spec.applies_iff_loose hf).mp happ).1 ⟨rfl, State.Warmed39.refl s, rfl⟩ trivial
  refine ⟨n, _, h1, h2, h3, hpost _ _ _ _ _ _ ⟨Cond.after_iff.mpr rfl, Cond.after_iff.mpr (eq_i res_at (Term.int_eval (1)) rfl), trivial⟩ ⟨hq.1, hq.2.1, hq.2.2.1, (hq.2.2.2.sift fun y hy => Or.inr (N y hy)).mono (by decide) (by decide)⟩⟩
theorem main_1_1 : Claimed_1_1 := comes_1 fun _ _ _ _ _ _ h hF => ⟨h.1, hF⟩
theorem main_1_2 : Claimed_1_2 := comes_1 fun _ _ _ _ _ _ h hF => ⟨h.2.1, hF⟩
end Jvm.Pilot.@@N@@
namespace Jvm.Pilot.@@N@@
open Jvm Jvm.ClassFile Sem Op Lib Jvm.Free Jvm.Stand Jvm.Pilot.@@N@@.Jvm.D
/-! MADE BY PROGRAM (witnessworld.py) out of the Statement's table words and the real class files: 20 classes; the members and pool entries that the words name. The judged class is class 1, her method 1. -/
namespace start1
open Jvm.ClassFile
def u (s : String) : CpInfo := .utf8 (stringToUtf16 s)
/-- a pool by its gaps: so many unusable entries, then the entry; so many at the end -/
def gap : Nat → List CpInfo → List CpInfo
  | 0, r => r
  | n + 1, r => .unusable :: gap n r
def poolList (es : List (Nat × CpInfo)) (last : Nat) : List CpInfo := es.foldr (fun e r => gap e.1 (e.2 :: r)) (gap last [])
def pool (es : List (Nat × CpInfo)) (last : Nat) : Array CpInfo := ⟨poolList es last⟩
def fileOf (pool : Array CpInfo) (this : Nat) (attrs : Array Attribute := #[]) (ms : Array MethodInfo := #[]) (fl : Nat := 33) (sup : Nat := 0) (ifs : Array Nat := #[]) (fds : Array FieldInfo := #[]) : ClassFile where
  minorVersion := 0
  majorVersion := 65
  constantPool := pool
  accessFlags := fl
  thisClass := this
  superClass := sup
  interfaces := ifs
  fields := fds
  methods := ms
  attributes := attrs
def plain (name : String) (sup : Option ClassId) : Class where
  name := name
  kind := .ordinary
  loader := none
  accessFlags := 33
  super := sup
  interfaces := #[]
  cf := none
  fields := #[]
  methods := #[]
  instanceTypes := #[]
  staticTypes := #[]
  resolved := #[]
  callSites := []
  init := .initialized
  statics := none
  mirror := none

def pool0 : Array CpInfo := pool [(5, u "<init>"), (0, u "()V"), (1, .class_ 10), (1, u "java/lang/Object")] 113

def k0c0 : Code := { maxStack := 0, maxLocals := 1, code := object_method_1_code, exceptionTable := #[], attributes := #[] }
def k0m0 : Method := { name := "<init>", desc := "()V", sig := { parameters := [], returnType := none }, accessFlags := 1, code := some k0c0 }
/-- java/lang/Object -/
def k0 : Class := { plain "java/lang/Object" none with
  accessFlags := 33
  interfaces := #[]
  cf := some (fileOf pool0 8 #[] #[{ accessFlags := 1, nameIndex := 5, descriptorIndex := 6, attributes := #[] }] 33 0 #[] #[])
  fields := #[]
  methods := #[k0m0]
  instanceTypes := #[]
  staticTypes := #[]
  resolved := Array.replicate 124 none
  statics := none }

def pool1 : Array CpInfo := pool [(2, .class_ 4), (1, u "java/lang/Object"), (0, u "<init>"), (0, u "()V"), (0, .integer 65535), (0, .class_ 9), (0, u "com/example/ample_gap/amplegap/simulation/Road"), (0, .methodref 8 11), (0, .nameAndType 5 12), (0, u "(D)V"), (0, .methodref 8 14), (0, .nameAndType 5 15), (0, u "(DI)V"), (0, .methodref 8 17), (0, .nameAndType 18 19), (0, u "ring"), (0, u "(DI)Lcom/example/ample_gap/amplegap/simulation/Road;"), (0, .class_ 21), (0, u "com/example/ample_gap/amplegap/simulation/OnRamp"), (0, .methodref 20 23), (0, .nameAndType 5 24), (0, u "(DD)V"), (0, .methodref 8 26), (0, .nameAndType 27 28), (0, u "withOnRamp"), (0, u "(Lcom/example/ample_gap/amplegap/simulation/OnRamp;)Lcom/example/ample_gap/amplegap/simulation/Road;"), (0, .methodref 8 30), (0, .nameAndType 31 32), (0, u "hasLane"), (0, u "(I)Z"), (0, .class_ 34), (0, u "com/example/ample_gap/amplegap/simulation/RoadHasLanePinLaw"), (2, u "law"), (0, u "(IIII)Z")] 3

def k1m0 : Method := { name := "<init>", desc := "()V", sig := { parameters := [], returnType := none }, accessFlags := 1, code := none }
def k1c1 : Code := { maxStack := 7, maxLocals := 13, code := code, exceptionTable := #[], attributes := #[] }
def k1m1 : Method := { name := "law", desc := "(IIII)Z", sig := { parameters := [.int, .int, .int, .int], returnType := some .boolean }, accessFlags := 9, code := some k1c1 }
/-- com/example/ample_gap/amplegap/simulation/RoadHasLanePinLaw -/
def k1 : Class := { plain "com/example/ample_gap/amplegap/simulation/RoadHasLanePinLaw" (some 0) with
  accessFlags := 49
  interfaces := #[]
  cf := some (fileOf pool1 33 #[] #[{ accessFlags := 1, nameIndex := 5, descriptorIndex := 6, attributes := #[] }, { accessFlags := 9, nameIndex := 37, descriptorIndex := 38, attributes := #[] }] 49 2 #[] #[])
  fields := #[]
  methods := #[k1m0, k1m1]
  instanceTypes := #[]
  staticTypes := #[]
  resolved := Array.replicate 42 none
  statics := none }

def pool2 : Array CpInfo := pool [(1, .methodref 2 3), (0, .class_ 4), (0, .nameAndType 5 6), (0, u "com/example/ample_gap/amplegap/simulation/Road"), (0, u "<init>"), (0, u "(DIZ)V"), (0, .methodref 8 9), (0, .class_ 10), (0, .nameAndType 5 11), (0, u "java/lang/Object"), (0, u "()V"), (9, .string 22), (0, u "ring circumference"), (0, .string 24), (0, u "road length"), (0, .methodref 26 27), (0, .class_ 28), (0, .nameAndType 29 30), (0, u "com/example/ample_gap/amplegap/model/Ranges"), (0, u "requirePositive"), (0, u "(Ljava/lang/String;D)D"), (0, .fieldref 2 32), (0, .nameAndType 33 34), (0, u "length"), (0, u "D"), (0, .fieldref 2 36), (0, .nameAndType 37 38), (0, u "lanes"), (0, u "I"), (0, .fieldref 2 40), (0, .nameAndType 41 42), (0, u "ring"), (0, u "Z"), (0, .fieldref 2 44), (0, .nameAndType 45 46), (0, u "onRamp"), (0, u "Lcom/example/ample_gap/amplegap/simulation/OnRamp;"), (0, .string 48), (0, u "ramp"), (0, .methodref 50 51), (0, .class_ 52), (0, .nameAndType 53 54), (0, u "java/util/Objects"), (0, u "requireNonNull"), (0, u "(Ljava/lang/Object;Ljava/lang/String;)Ljava/lang/Object;"), (2, .methodref 58 59), (0, .class_ 60), (0, .nameAndType 61 62), (0, u "com/example/ample_gap/amplegap/simulation/OnRamp"), (0, u "end"), (0, u "()D"), (3, .methodref 2 67), (0, .nameAndType 5 68), (0, u "(Lcom/example/ample_gap/amplegap/simulation/Road;Lcom/example/ample_gap/amplegap/simulation/OnRamp;)V"), (6, .methodref 2 76), (0, .nameAndType 77 78), (0, u "lowestLane"), (0, u "()I"), (0, u "MAX_LANES"), (2, u "(D)V"), (2, u "(DI)V"), (4, u "(DI)Lcom/example/ample_gap/amplegap/simulation/Road;"), (2, u "withOnRamp"), (0, u "(Lcom/example/ample_gap/amplegap/simulation/OnRamp;)Lcom/example/ample_gap/amplegap/simulation/Road;"), (3, u "hasLane"), (0, u "(I)Z")] 19

def k2c0 : Code := { maxStack := 5, maxLocals := 3, code := prog_49_method_1_code, exceptionTable := #[], attributes := #[] }
def k2m0 : Method := { name := "<init>", desc := "(D)V", sig := { parameters := [.double], returnType := none }, accessFlags := 1, code := some k2c0 }
def k2c1 : Code := { maxStack := 5, maxLocals := 4, code := prog_49_method_2_code, exceptionTable := #[], attributes := #[] }
def k2m1 : Method := { name := "<init>", desc := "(DI)V", sig := { parameters := [.double, .int], returnType := none }, accessFlags := 1, code := some k2c1 }
def k2c2 : Code := { maxStack := 4, maxLocals := 5, code := prog_49_method_3_code, exceptionTable := #[], attributes := #[] }
def k2m2 : Method := { name := "<init>", desc := "(DIZ)V", sig := { parameters := [.double, .int, .boolean], returnType := none }, accessFlags := 2, code := some k2c2 }
def k2c3 : Code := { maxStack := 3, maxLocals := 3, code := prog_49_method_4_code, exceptionTable := #[], attributes := #[] }
def k2m3 : Method := { name := "<init>", desc := "(Lcom/example/ample_gap/amplegap/simulation/Road;Lcom/example/ample_gap/amplegap/simulation/OnRamp;)V", sig := { parameters := [(.object "com/example/ample_gap/amplegap/simulation/Road"), (.object "com/example/ample_gap/amplegap/simulation/OnRamp")], returnType := none }, accessFlags := 2, code := some k2c3 }
def k2c4 : Code := { maxStack := 6, maxLocals := 3, code := prog_49_method_6_code, exceptionTable := #[], attributes := #[] }
def k2m4 : Method := { name := "ring", desc := "(DI)Lcom/example/ample_gap/amplegap/simulation/Road;", sig := { parameters := [.double, .int], returnType := some (.object "com/example/ample_gap/amplegap/simulation/Road") }, accessFlags := 9, code := some k2c4 }
def k2c5 : Code := { maxStack := 6, maxLocals := 2, code := prog_49_method_10_code, exceptionTable := #[], attributes := #[] }
def k2m5 : Method := { name := "withOnRamp", desc := "(Lcom/example/ample_gap/amplegap/simulation/OnRamp;)Lcom/example/ample_gap/amplegap/simulation/Road;", sig := { parameters := [(.object "com/example/ample_gap/amplegap/simulation/OnRamp")], returnType := some (.object "com/example/ample_gap/amplegap/simulation/Road") }, accessFlags := 1, code := some k2c5 }
def k2c6 : Code := { maxStack := 1, maxLocals := 1, code := prog_49_method_12_code, exceptionTable := #[], attributes := #[] }
def k2m6 : Method := { name := "lowestLane", desc := "()I", sig := { parameters := [], returnType := some .int }, accessFlags := 1, code := some k2c6 }
def k2c7 : Code := { maxStack := 2, maxLocals := 2, code := prog_49_method_13_code, exceptionTable := #[], attributes := #[] }
def k2m7 : Method := { name := "hasLane", desc := "(I)Z", sig := { parameters := [.int], returnType := some .boolean }, accessFlags := 1, code := some k2c7 }
/-- com/example/ample_gap/amplegap/simulation/Road -/
def k2 : Class := { plain "com/example/ample_gap/amplegap/simulation/Road" (some 0) with
  accessFlags := 33
  interfaces := #[]
  cf := some (fileOf pool2 2 #[] #[{ accessFlags := 1, nameIndex := 5, descriptorIndex := 82, attributes := #[] }, { accessFlags := 1, nameIndex := 5, descriptorIndex := 85, attributes := #[] }, { accessFlags := 2, nameIndex := 5, descriptorIndex := 6, attributes := #[] }, { accessFlags := 2, nameIndex := 5, descriptorIndex := 68, attributes := #[] }, { accessFlags := 9, nameIndex := 41, descriptorIndex := 90, attributes := #[] }, { accessFlags := 1, nameIndex := 93, descriptorIndex := 94, attributes := #[] }, { accessFlags := 1, nameIndex := 77, descriptorIndex := 78, attributes := #[] }, { accessFlags := 1, nameIndex := 98, descriptorIndex := 99, attributes := #[] }] 33 8 #[] #[{ accessFlags := 25, nameIndex := 79, descriptorIndex := 38, attributes := #[] }, { accessFlags := 18, nameIndex := 33, descriptorIndex := 34, attributes := #[] }, { accessFlags := 18, nameIndex := 37, descriptorIndex := 38, attributes := #[] }, { accessFlags := 18, nameIndex := 41, descriptorIndex := 42, attributes := #[] }, { accessFlags := 18, nameIndex := 45, descriptorIndex := 46, attributes := #[] }])
  fields := #[{ name := "MAX_LANES", type := .int, accessFlags := 25, slot := 0, constantValue := 0 }, { name := "length", type := .double, accessFlags := 18, slot := 0, constantValue := 0 }, { name := "lanes", type := .int, accessFlags := 18, slot := 1, constantValue := 0 }, { name := "ring", type := .boolean, accessFlags := 18, slot := 2, constantValue := 0 }, { name := "onRamp", type := (.object "com/example/ample_gap/amplegap/simulation/OnRamp"), accessFlags := 18, slot := 3, constantValue := 0 }]
  methods := #[k2m0, k2m1, k2m2, k2m3, k2m4, k2m5, k2m6, k2m7]
  instanceTypes := #[.double, .int, .boolean, (.object "com/example/ample_gap/amplegap/simulation/OnRamp")]
  staticTypes := #[.int]
  resolved := Array.replicate 119 none
  statics := none }

def pool3 : Array CpInfo := pool [(1, .class_ 2), (0, u "java/io/Serializable"), (0, .class_ 4), (0, u "java/lang/Object")] 2

/-- java/io/Serializable -/
def k3 : Class := { plain "java/io/Serializable" (some 0) with
  accessFlags := 1537
  interfaces := #[]
  cf := some (fileOf pool3 1 #[] #[] 1537 3 #[] #[])
  fields := #[]
  methods := #[]
  instanceTypes := #[]
  staticTypes := #[]
  resolved := Array.replicate 7 none
  statics := none }

def pool4 : Array CpInfo := pool [(1, .class_ 2), (0, u "java/lang/Comparable"), (0, .class_ 4), (0, u "java/lang/Object")] 7

/-- java/lang/Comparable -/
def k4 : Class := { plain "java/lang/Comparable" (some 0) with
  accessFlags := 1537
  interfaces := #[]
  cf := some (fileOf pool4 1 #[] #[] 1537 3 #[] #[])
  fields := #[]
  methods := #[]
  instanceTypes := #[]
  staticTypes := #[]
  resolved := Array.replicate 12 none
  statics := none }

def pool5 : Array CpInfo := pool [(2, .class_ 4), (1, u "java/lang/CharSequence"), (42, .class_ 48), (0, u "java/lang/CharSequence$1CodePointIterator"), (10, .class_ 60), (0, u "java/lang/CharSequence$1CharIterator"), (5, .class_ 67), (0, u "java/lang/Object")] 63

/-- java/lang/CharSequence -/
def k5 : Class := { plain "java/lang/CharSequence" (some 0) with
  accessFlags := 1537
  interfaces := #[]
  cf := some (fileOf pool5 2 #[.nestMembers #[47, 59]] #[] 1537 66 #[] #[])
  fields := #[]
  methods := #[]
  instanceTypes := #[]
  staticTypes := #[]
  resolved := Array.replicate 131 none
  statics := none }

def pool6 : Array CpInfo := pool [(1, .class_ 2), (0, u "java/lang/constant/Constable"), (0, .class_ 4), (0, u "java/lang/Object")] 6

/-- java/lang/constant/Constable -/
def k6 : Class := { plain "java/lang/constant/Constable" (some 0) with
  accessFlags := 1537
  interfaces := #[]
  cf := some (fileOf pool6 1 #[] #[] 1537 3 #[] #[])
  fields := #[]
  methods := #[]
  instanceTypes := #[]
  staticTypes := #[]
  resolved := Array.replicate 11 none
  statics := none }

def pool7 : Array CpInfo := pool [(1, .class_ 2), (0, u "java/lang/constant/ConstantDesc"), (0, .class_ 4), (0, u "java/lang/Object")] 32

/-- java/lang/constant/ConstantDesc -/
def k7 : Class := { plain "java/lang/constant/ConstantDesc" (some 0) with
  accessFlags := 1537
  interfaces := #[]
  cf := some (fileOf pool7 1 #[] #[] 1537 3 #[] #[])
  fields := #[]
  methods := #[]
  instanceTypes := #[]
  staticTypes := #[]
  resolved := Array.replicate 37 none
  statics := none }

def pool8 : Array CpInfo := pool [(2, .class_ 4), (1, u "java/lang/Object"), (0, u "<init>"), (0, u "()V"), (3, .class_ 12), (1, u "java/lang/String"), (0, u "value"), (0, u "[B"), (2, u "coder"), (0, u "B"), (2, u "hash"), (0, u "I"), (2, u "hashIsZero"), (0, u "Z"), (13, u "COMPACT_STRINGS"), (534, .class_ 576), (0, u "java/lang/CharSequence"), (22, u "CASE_INSENSITIVE_ORDER"), (0, u "Ljava/util/Comparator;"), (500, u "serialPersistentFields"), (0, u "[Ljava/io/ObjectStreamField;"), (0, .class_ 1104), (0, u "java/lang/String$CaseInsensitiveComparator"), (1, .class_ 1107), (0, u "java/io/Serializable"), (0, .class_ 1109), (0, u "java/lang/Comparable"), (0, .class_ 1111), (0, u "java/lang/constant/Constable"), (0, .class_ 1113), (0, u "java/lang/constant/ConstantDesc"), (2, u "serialVersionUID"), (0, u "J"), (3, u "REPL"), (0, u "C"), (2, u "LATIN1"), (1, u "UTF16")] 323

def k8m0 : Method := { name := "<init>", desc := "()V", sig := { parameters := [], returnType := none }, accessFlags := 1, code := none }
/-- java/lang/String -/
def k8 : Class := { plain "java/lang/String" (some 0) with
  accessFlags := 49
  interfaces := #[3, 4, 5, 6, 7]
  cf := some (fileOf pool8 10 #[.nestMembers #[1103]] #[{ accessFlags := 1, nameIndex := 5, descriptorIndex := 6, attributes := #[] }] 49 2 #[1106, 1108, 575, 1110, 1112] #[{ accessFlags := 18, nameIndex := 13, descriptorIndex := 14, attributes := #[] }, { accessFlags := 18, nameIndex := 17, descriptorIndex := 18, attributes := #[] }, { accessFlags := 2, nameIndex := 21, descriptorIndex := 22, attributes := #[] }, { accessFlags := 2, nameIndex := 25, descriptorIndex := 26, attributes := #[] }, { accessFlags := 26, nameIndex := 1116, descriptorIndex := 1117, attributes := #[] }, { accessFlags := 24, nameIndex := 40, descriptorIndex := 26, attributes := #[] }, { accessFlags := 26, nameIndex := 1101, descriptorIndex := 1102, attributes := #[] }, { accessFlags := 26, nameIndex := 1121, descriptorIndex := 1122, attributes := #[] }, { accessFlags := 25, nameIndex := 599, descriptorIndex := 600, attributes := #[] }, { accessFlags := 24, nameIndex := 1125, descriptorIndex := 18, attributes := #[] }, { accessFlags := 24, nameIndex := 1127, descriptorIndex := 18, attributes := #[] }])
  fields := #[{ name := "value", type := (.array .byte), accessFlags := 18, slot := 0, constantValue := 0 }, { name := "coder", type := .byte, accessFlags := 18, slot := 1, constantValue := 0 }, { name := "hash", type := .int, accessFlags := 2, slot := 2, constantValue := 0 }, { name := "hashIsZero", type := .boolean, accessFlags := 2, slot := 3, constantValue := 0 }, { name := "serialVersionUID", type := .long, accessFlags := 26, slot := 0, constantValue := 0 }, { name := "COMPACT_STRINGS", type := .boolean, accessFlags := 24, slot := 1, constantValue := 0 }, { name := "serialPersistentFields", type := (.array (.object "java/io/ObjectStreamField")), accessFlags := 26, slot := 2, constantValue := 0 }, { name := "REPL", type := .char, accessFlags := 26, slot := 3, constantValue := 0 }, { name := "CASE_INSENSITIVE_ORDER", type := (.object "java/util/Comparator"), accessFlags := 25, slot := 4, constantValue := 0 }, { name := "LATIN1", type := .byte, accessFlags := 24, slot := 5, constantValue := 0 }, { name := "UTF16", type := .byte, accessFlags := 24, slot := 6, constantValue := 0 }]
  methods := #[k8m0]
  instanceTypes := #[(.array .byte), .byte, .int, .boolean]
  staticTypes := #[.long, .boolean, (.array (.object "java/io/ObjectStreamField")), .char, (.object "java/util/Comparator"), .byte, .byte]
  resolved := Array.replicate 1451 none
  statics := none }

def pool9 : Array CpInfo := pool [(2, .class_ 4), (1, u "java/lang/Object"), (0, u "<init>"), (0, u "()V"), (0, .methodref 8 9), (0, .class_ 10), (0, .nameAndType 11 12), (0, u "com/example/ample_gap/amplegap/model/Ranges"), (0, u "requireFinite"), (0, u "(Ljava/lang/String;D)D"), (13, .methodref 27 28), (0, .class_ 29), (0, .nameAndType 30 31), (0, u "java/lang/Double"), (0, u "isFinite"), (0, u "(D)Z"), (3, u "requirePositive"), (1, u "requireNonNegative")] 22

def k9m0 : Method := { name := "<init>", desc := "()V", sig := { parameters := [], returnType := none }, accessFlags := 2, code := none }
def k9c1 : Code := { maxStack := 5, maxLocals := 3, code := prog_30_method_2_code, exceptionTable := #[], attributes := #[] }
def k9m1 : Method := { name := "requirePositive", desc := "(Ljava/lang/String;D)D", sig := { parameters := [(.object "java/lang/String"), .double], returnType := some .double }, accessFlags := 9, code := some k9c1 }
def k9c2 : Code := { maxStack := 5, maxLocals := 3, code := prog_30_method_3_code, exceptionTable := #[], attributes := #[] }
def k9m2 : Method := { name := "requireNonNegative", desc := "(Ljava/lang/String;D)D", sig := { parameters := [(.object "java/lang/String"), .double], returnType := some .double }, accessFlags := 9, code := some k9c2 }
def k9c3 : Code := { maxStack := 5, maxLocals := 3, code := prog_30_method_5_code, exceptionTable := #[], attributes := #[] }
def k9m3 : Method := { name := "requireFinite", desc := "(Ljava/lang/String;D)D", sig := { parameters := [(.object "java/lang/String"), .double], returnType := some .double }, accessFlags := 9, code := some k9c3 }
/-- com/example/ample_gap/amplegap/model/Ranges -/
def k9 : Class := { plain "com/example/ample_gap/amplegap/model/Ranges" (some 0) with
  accessFlags := 33
  interfaces := #[]
  cf := some (fileOf pool9 8 #[] #[{ accessFlags := 2, nameIndex := 5, descriptorIndex := 6, attributes := #[] }, { accessFlags := 9, nameIndex := 35, descriptorIndex := 12, attributes := #[] }, { accessFlags := 9, nameIndex := 37, descriptorIndex := 12, attributes := #[] }, { accessFlags := 9, nameIndex := 11, descriptorIndex := 12, attributes := #[] }] 33 2 #[] #[])
  fields := #[]
  methods := #[k9m0, k9m1, k9m2, k9m3]
  instanceTypes := #[]
  staticTypes := #[]
  resolved := Array.replicate 60 none
  statics := none }

def pool10 : Array CpInfo := pool [(2, .class_ 4), (1, u "java/lang/Object"), (0, u "<init>"), (0, u "()V"), (1, .class_ 10), (1, u "java/lang/Number"), (2, .class_ 14), (0, u "java/io/Serializable"), (0, u "serialVersionUID"), (0, u "J")] 20

def k10m0 : Method := { name := "<init>", desc := "()V", sig := { parameters := [], returnType := none }, accessFlags := 1, code := none }
/-- java/lang/Number -/
def k10 : Class := { plain "java/lang/Number" (some 0) with
  accessFlags := 1057
  interfaces := #[3]
  cf := some (fileOf pool10 8 #[] #[{ accessFlags := 1, nameIndex := 5, descriptorIndex := 6, attributes := #[] }] 1057 2 #[13] #[{ accessFlags := 26, nameIndex := 15, descriptorIndex := 16, attributes := #[] }])
  fields := #[{ name := "serialVersionUID", type := .long, accessFlags := 26, slot := 0, constantValue := 0 }]
  methods := #[k10m0]
  instanceTypes := #[]
  staticTypes := #[.long]
  resolved := Array.replicate 37 none
  statics := none }

def pool11 : Array CpInfo := pool [(1, .class_ 2), (0, u "java/lang/Double"), (10, u "isFinite"), (0, u "(D)Z"), (8, .class_ 25), (1, u "java/lang/Math"), (12, .methodref 23 39), (0, .nameAndType 40 41), (0, u "abs"), (0, u "(D)D"), (69, .double 9218868437227405311), (2, .class_ 116), (1, u "java/lang/Number"), (3, u "value"), (0, u "D"), (51, u "TYPE"), (0, u "Ljava/lang/Class;"), (0, .class_ 176), (0, u "java/lang/Comparable"), (0, .class_ 178), (0, u "java/lang/constant/Constable"), (0, .class_ 180), (0, u "java/lang/constant/ConstantDesc"), (0, u "POSITIVE_INFINITY"), (3, u "NEGATIVE_INFINITY"), (2, u "NaN"), (2, u "MAX_VALUE"), (0, u "MIN_NORMAL"), (0, u "MIN_VALUE"), (2, u "SIZE"), (0, u "I"), (1, u "PRECISION"), (1, u "MAX_EXPONENT"), (1, u "MIN_EXPONENT"), (1, u "BYTES"), (3, u "serialVersionUID"), (0, u "J")] 79

def k11c0 : Code := { maxStack := 4, maxLocals := 2, code := jdk_117_method_8_code, exceptionTable := #[], attributes := #[] }
def k11m0 : Method := { name := "isFinite", desc := "(D)Z", sig := { parameters := [.double], returnType := some .boolean }, accessFlags := 9, code := some k11c0 }
/-- java/lang/Double -/
def k11 : Class := { plain "java/lang/Double" (some 10) with
  accessFlags := 49
  interfaces := #[4, 6, 7]
  cf := some (fileOf pool11 1 #[] #[{ accessFlags := 9, nameIndex := 13, descriptorIndex := 14, attributes := #[] }] 49 114 #[175, 177, 179] #[{ accessFlags := 25, nameIndex := 181, descriptorIndex := 121, attributes := #[] }, { accessFlags := 25, nameIndex := 185, descriptorIndex := 121, attributes := #[] }, { accessFlags := 25, nameIndex := 188, descriptorIndex := 121, attributes := #[] }, { accessFlags := 25, nameIndex := 191, descriptorIndex := 121, attributes := #[] }, { accessFlags := 25, nameIndex := 192, descriptorIndex := 121, attributes := #[] }, { accessFlags := 25, nameIndex := 193, descriptorIndex := 121, attributes := #[] }, { accessFlags := 25, nameIndex := 196, descriptorIndex := 197, attributes := #[] }, { accessFlags := 25, nameIndex := 199, descriptorIndex := 197, attributes := #[] }, { accessFlags := 25, nameIndex := 201, descriptorIndex := 197, attributes := #[] }, { accessFlags := 25, nameIndex := 203, descriptorIndex := 197, attributes := #[] }, { accessFlags := 25, nameIndex := 205, descriptorIndex := 197, attributes := #[] }, { accessFlags := 25, nameIndex := 173, descriptorIndex := 174, attributes := #[] }, { accessFlags := 18, nameIndex := 120, descriptorIndex := 121, attributes := #[] }, { accessFlags := 26, nameIndex := 209, descriptorIndex := 210, attributes := #[] }])
  fields := #[{ name := "POSITIVE_INFINITY", type := .double, accessFlags := 25, slot := 0, constantValue := 0 }, { name := "NEGATIVE_INFINITY", type := .double, accessFlags := 25, slot := 1, constantValue := 0 }, { name := "NaN", type := .double, accessFlags := 25, slot := 2, constantValue := 0 }, { name := "MAX_VALUE", type := .double, accessFlags := 25, slot := 3, constantValue := 0 }, { name := "MIN_NORMAL", type := .double, accessFlags := 25, slot := 4, constantValue := 0 }, { name := "MIN_VALUE", type := .double, accessFlags := 25, slot := 5, constantValue := 0 }, { name := "SIZE", type := .int, accessFlags := 25, slot := 6, constantValue := 0 }, { name := "PRECISION", type := .int, accessFlags := 25, slot := 7, constantValue := 0 }, { name := "MAX_EXPONENT", type := .int, accessFlags := 25, slot := 8, constantValue := 0 }, { name := "MIN_EXPONENT", type := .int, accessFlags := 25, slot := 9, constantValue := 0 }, { name := "BYTES", type := .int, accessFlags := 25, slot := 10, constantValue := 0 }, { name := "TYPE", type := (.object "java/lang/Class"), accessFlags := 25, slot := 11, constantValue := 0 }, { name := "value", type := .double, accessFlags := 18, slot := 0, constantValue := 0 }, { name := "serialVersionUID", type := .long, accessFlags := 26, slot := 12, constantValue := 0 }]
  methods := #[k11m0]
  instanceTypes := #[.double]
  staticTypes := #[.double, .double, .double, .double, .double, .double, .int, .int, .int, .int, .int, (.object "java/lang/Class"), .long]
  resolved := Array.replicate 290 none
  statics := none }

def pool12 : Array CpInfo := pool [(1, .class_ 2), (0, u "java/lang/Math"), (1, .class_ 6), (1, u "java/lang/Object"), (0, u "<init>"), (0, u "()V"), (5, u "(D)D"), (83, .class_ 100), (1, u "java/lang/Math$RandomNumberGeneratorHolder"), (23, u "abs"), (47, u "negativeZeroFloatBits"), (0, u "J"), (2, u "negativeZeroDoubleBits"), (68, u "$assertionsDisabled"), (0, u "Z"), (91, u "twoToTheDoubleScaleDown"), (0, u "D"), (4, u "twoToTheDoubleScaleUp"), (9, u "E"), (3, u "PI"), (2, u "TAU"), (2, u "DEGREES_TO_RADIANS"), (0, u "RADIANS_TO_DEGREES")] 94

def k12m0 : Method := { name := "<init>", desc := "()V", sig := { parameters := [], returnType := none }, accessFlags := 2, code := none }
def k12c1 : Code := { maxStack := 4, maxLocals := 2, code := jdk_29_method_64_code, exceptionTable := #[], attributes := #[] }
def k12m1 : Method := { name := "abs", desc := "(D)D", sig := { parameters := [.double], returnType := some .double }, accessFlags := 9, code := some k12c1 }
/-- java/lang/Math -/
def k12 : Class := { plain "java/lang/Math" (some 0) with
  accessFlags := 49
  interfaces := #[]
  cf := some (fileOf pool12 1 #[.nestMembers #[98]] #[{ accessFlags := 2, nameIndex := 7, descriptorIndex := 8, attributes := #[] }, { accessFlags := 9, nameIndex := 124, descriptorIndex := 14, attributes := #[] }] 49 4 #[] #[{ accessFlags := 25, nameIndex := 354, descriptorIndex := 339, attributes := #[] }, { accessFlags := 25, nameIndex := 358, descriptorIndex := 339, attributes := #[] }, { accessFlags := 25, nameIndex := 361, descriptorIndex := 339, attributes := #[] }, { accessFlags := 26, nameIndex := 364, descriptorIndex := 339, attributes := #[] }, { accessFlags := 26, nameIndex := 365, descriptorIndex := 339, attributes := #[] }, { accessFlags := 26, nameIndex := 172, descriptorIndex := 173, attributes := #[] }, { accessFlags := 26, nameIndex := 176, descriptorIndex := 173, attributes := #[] }, { accessFlags := 8, nameIndex := 344, descriptorIndex := 339, attributes := #[] }, { accessFlags := 8, nameIndex := 338, descriptorIndex := 339, attributes := #[] }, { accessFlags := 4120, nameIndex := 245, descriptorIndex := 246, attributes := #[] }])
  fields := #[{ name := "E", type := .double, accessFlags := 25, slot := 0, constantValue := 0 }, { name := "PI", type := .double, accessFlags := 25, slot := 1, constantValue := 0 }, { name := "TAU", type := .double, accessFlags := 25, slot := 2, constantValue := 0 }, { name := "DEGREES_TO_RADIANS", type := .double, accessFlags := 26, slot := 3, constantValue := 0 }, { name := "RADIANS_TO_DEGREES", type := .double, accessFlags := 26, slot := 4, constantValue := 0 }, { name := "negativeZeroFloatBits", type := .long, accessFlags := 26, slot := 5, constantValue := 0 }, { name := "negativeZeroDoubleBits", type := .long, accessFlags := 26, slot := 6, constantValue := 0 }, { name := "twoToTheDoubleScaleUp", type := .double, accessFlags := 8, slot := 7, constantValue := 0 }, { name := "twoToTheDoubleScaleDown", type := .double, accessFlags := 8, slot := 8, constantValue := 0 }, { name := "$assertionsDisabled", type := .boolean, accessFlags := 4120, slot := 9, constantValue := 0 }]
  methods := #[k12m0, k12m1]
  instanceTypes := #[]
  staticTypes := #[.double, .double, .double, .double, .double, .long, .long, .double, .double, .boolean]
  resolved := Array.replicate 460 none
  statics := none }

def pool13 : Array CpInfo := pool [(1, .methodref 2 3), (0, .class_ 4), (0, .nameAndType 5 6), (0, u "java/lang/Object"), (0, u "<init>"), (0, u "()V"), (0, .string 8), (0, u "on-ramp start"), (0, .methodref 10 11), (0, .class_ 12), (0, .nameAndType 13 14), (0, u "com/example/ample_gap/amplegap/model/Ranges"), (0, u "requireNonNegative"), (0, u "(Ljava/lang/String;D)D"), (0, .string 16), (0, u "on-ramp end"), (0, .methodref 10 18), (0, .nameAndType 19 14), (0, u "requireFinite"), (9, .fieldref 30 31), (0, .class_ 32), (0, .nameAndType 33 34), (0, u "com/example/ample_gap/amplegap/simulation/OnRamp"), (0, u "start"), (0, u "D"), (0, .fieldref 30 36), (0, .nameAndType 37 34), (0, u "end"), (0, u "(DD)V"), (3, u "()D")] 17

def k13c0 : Code := { maxStack := 6, maxLocals := 5, code := prog_45_method_1_code, exceptionTable := #[], attributes := #[] }
def k13m0 : Method := { name := "<init>", desc := "(DD)V", sig := { parameters := [.double, .double], returnType := none }, accessFlags := 1, code := some k13c0 }
def k13c1 : Code := { maxStack := 2, maxLocals := 1, code := prog_45_method_3_code, exceptionTable := #[], attributes := #[] }
def k13m1 : Method := { name := "end", desc := "()D", sig := { parameters := [], returnType := some .double }, accessFlags := 1, code := some k13c1 }
/-- com/example/ample_gap/amplegap/simulation/OnRamp -/
def k13 : Class := { plain "com/example/ample_gap/amplegap/simulation/OnRamp" (some 0) with
  accessFlags := 33
  interfaces := #[]
  cf := some (fileOf pool13 30 #[] #[{ accessFlags := 1, nameIndex := 5, descriptorIndex := 38, attributes := #[] }, { accessFlags := 1, nameIndex := 37, descriptorIndex := 42, attributes := #[] }] 33 2 #[] #[{ accessFlags := 18, nameIndex := 33, descriptorIndex := 34, attributes := #[] }, { accessFlags := 18, nameIndex := 37, descriptorIndex := 34, attributes := #[] }])
  fields := #[{ name := "start", type := .double, accessFlags := 18, slot := 0, constantValue := 0 }, { name := "end", type := .double, accessFlags := 18, slot := 1, constantValue := 0 }]
  methods := #[k13m0, k13m1]
  instanceTypes := #[.double, .double]
  staticTypes := #[]
  resolved := Array.replicate 60 none
  statics := none }

def pool14 : Array CpInfo := pool [(2, .class_ 4), (1, u "java/lang/Object"), (0, u "<init>"), (0, u "()V"), (35, .class_ 44), (1, u "java/util/Objects"), (0, u "requireNonNull"), (48, u "(Ljava/lang/Object;Ljava/lang/String;)Ljava/lang/Object;")] 89

def k14m0 : Method := { name := "<init>", desc := "()V", sig := { parameters := [], returnType := none }, accessFlags := 2, code := none }
def k14c1 : Code := { maxStack := 3, maxLocals := 2, code := jdk_31_method_11_code, exceptionTable := #[], attributes := #[] }
def k14m1 : Method := { name := "requireNonNull", desc := "(Ljava/lang/Object;Ljava/lang/String;)Ljava/lang/Object;", sig := { parameters := [(.object "java/lang/Object"), (.object "java/lang/String")], returnType := some (.object "java/lang/Object") }, accessFlags := 9, code := some k14c1 }
/-- java/util/Objects -/
def k14 : Class := { plain "java/util/Objects" (some 0) with
  accessFlags := 49
  interfaces := #[]
  cf := some (fileOf pool14 42 #[] #[{ accessFlags := 2, nameIndex := 5, descriptorIndex := 6, attributes := #[] }, { accessFlags := 9, nameIndex := 45, descriptorIndex := 94, attributes := #[] }] 49 2 #[] #[])
  fields := #[]
  methods := #[k14m0, k14m1]
  instanceTypes := #[]
  staticTypes := #[]
  resolved := Array.replicate 184 none
  statics := none }

def pool15 : Array CpInfo := pool [(1, u "java/lang/Cloneable"), (0, .class_ 1), (0, u "java/lang/Object"), (0, .class_ 3)] 3

/-- java/lang/Cloneable -/
def k15 : Class := { plain "java/lang/Cloneable" (some 0) with
  accessFlags := 1537
  interfaces := #[]
  cf := some (fileOf pool15 2 #[] #[] 1537 4 #[] #[])
  fields := #[]
  methods := #[]
  instanceTypes := #[]
  staticTypes := #[]
  resolved := Array.replicate 8 none
  statics := none }

/-- the primitive byte -/
def k16 : Class := { plain "byte" none with kind := .primitive 'B', accessFlags := 0x411 }
/-- [B -/
def k17 : Class := { plain "[B" (some 0) with kind := .array 16 .byte, interfaces := #[15, 3], accessFlags := 1041 }

/-- the primitive int -/
def k18 : Class := { plain "int" none with kind := .primitive 'I', accessFlags := 0x411 }
/-- [I -/
def k19 : Class := { plain "[I" (some 0) with kind := .array 18 .int, interfaces := #[15, 3], accessFlags := 1041 }

def heap : Heap := #[]
def classes : Array Class := #[k0, k1, k2, k3, k4, k5, k6, k7, k8, k9, k10, k11, k12, k13, k14, k15, k16, k17, k18, k19]
def interned : List (Array UInt16 × Addr) := []
def slotsUsed : Nat := 0
def theMethod : MethodId := ⟨1, 1⟩
def args0 : Array Value := #[.int 5, .int 3, .int 7, .int 1]
def aboutOver (below : List Frame) : State where
  vm := { classes := classes, interned := interned.toArray }
  heap := heap
  slotsUsed := slotsUsed
  threads := #[{ frames := .invoking theMethod args0 :: below }]
def below0 : List Frame := [.native { method := ⟨0, 0⟩, args := #[] }]
def about1 : State := aboutOver below0
def p0 : Program := .bare "" "" ""
def e0 : Env := launch0.env 0 0 0
theorem w_frames : about1.frames = Frame.invoking theMethod args0 :: below0 := rfl
set_option maxRecDepth 65536 in
theorem w_args : argsFit about1.vm theMethod args0 = true := by decide +kernel
set_option maxRecDepth 65536 in
theorem w_heap : heapFits about1 = true := by decide +kernel
set_option maxRecDepth 65536 in
theorem w_runnable : about1.curStatus? = some .runnable := by decide +kernel
set_option maxRecDepth 65536 in
theorem w_alone : about1.alone = true := by decide +kernel
set_option maxRecDepth 65536 in
theorem w_named : about1.methodNamed? x = some theMethod := by decide +kernel
set_option maxRecDepth 65536 in
theorem w_hears : about1.hears theMethod below0 = true := by decide +kernel
set_option maxRecDepth 65536 in
theorem w_ripe : about1.ripe theMethod args0 below0 = true := by decide +kernel
theorem w_running : about1.status = .running := rfl
set_option maxRecDepth 65536 in
theorem w_room : about1.hasRoom e0.platform room_1 = true :=
  launch0.hasRoom_least _ room_1 (by decide +kernel) (by decide +kernel) (by decide +kernel) (by decide +kernel) (by decide +kernel) (by decide +kernel)
theorem allAtoms_all (ts : List Jvm.Cond) (a : Array Jvm.Value) (st : Jvm.State) : (allAtoms ts).before a st = ts.all (fun c => c.before a st) := by
  induction ts with
  | nil => rfl
  | cons c t ih =>
    show (Jvm.Cond.and c (allAtoms t)).before a st = _
    rw [Jvm.Cond.before_and, ih, List.all_cons]
def words1 : List Jvm.Cond := Jvm.Cond.code x code maxLocals ret :: tables_1
/-- a 'code' word, met by the world's own term for the bytes: nothing is compared byte by byte -/
theorem code_word {y : MethodName} {bytes : ByteArray} {mx : Nat} {rt : Option FieldType} {a : Array Value} {s : State} {m : MethodId} {meth : Method} {c : Code} (h1 : s.methodNamed? y = some m) (h2 : s.vm.method? m = some meth) (h3 : meth.code = some c) (h4 : c.code = bytes)
    (h5 : (c.maxLocals == mx && c.exceptionTable.isEmpty && decide (c.maxStack ≤ mostOperands) && decide (meth.sig.returnType = rt) && !meth.locks && decide (parseMethodDescriptor y.desc = some meth.sig)) = true) : (Jvm.Cond.code y bytes mx rt).before a s = true := by
  simp only [Bool.and_eq_true, beq_iff_eq, Bool.not_eq_true', decide_eq_true_eq] at h5
  obtain ⟨⟨⟨⟨⟨g1, g2⟩, g3⟩, g4⟩, g5⟩, g6⟩ := h5
  simp [Cond.before, Cond.holds, Cond.value, h1, h2, h3, h4, g1, g2, g3, g4, g5, g6]
def isCode : Jvm.Cond → Bool
  | .code _ _ _ _ => true
  | _ => false
theorem all_split {L : List Jvm.Cond} {P : Jvm.Cond → Bool} (h1 : L.all (fun c => isCode c || P c) = true) (h2 : ∀ c ∈ L.filter isCode, P c = true) : L.all P = true := by
  refine List.all_eq_true.mpr fun c hc => ?_
  have h := List.all_eq_true.mp h1 c hc
  rcases Bool.eq_false_or_eq_true (isCode c) with hi | hi
  · exact h2 c (List.mem_filter.mpr ⟨hc, hi⟩)
  · simpa [hi] using h
set_option maxRecDepth 65536 in
theorem w_c0 : (Jvm.Cond.code x code maxLocals ret).before args0 about1 = true := code_word (m := ⟨1, 1⟩) (meth := k1m1) (c := k1c1) (by decide +kernel) rfl rfl rfl (by decide +kernel)
set_option maxRecDepth 65536 in
theorem w_c1 : (Jvm.Cond.code ({ cls := "com/example/ample_gap/amplegap/simulation/Road", name := "<init>", desc := "(DI)V" } : Jvm.MethodName) prog_49_method_2_code (4 : Nat) (Option.none : Option Jvm.ClassFile.FieldType)).before args0 about1 = true := code_word (m := ⟨2, 1⟩) (meth := k2m1) (c := k2c1) (by decide +kernel) rfl rfl rfl (by decide +kernel)
set_option maxRecDepth 65536 in
theorem w_c2 : (Jvm.Cond.code ({ cls := "com/example/ample_gap/amplegap/simulation/Road", name := "<init>", desc := "(DIZ)V" } : Jvm.MethodName) prog_49_method_3_code (5 : Nat) (Option.none : Option Jvm.ClassFile.FieldType)).before args0 about1 = true := code_word (m := ⟨2, 2⟩) (meth := k2m2) (c := k2c2) (by decide +kernel) rfl rfl rfl (by decide +kernel)
set_option maxRecDepth 65536 in
theorem w_c3 : (Jvm.Cond.code ({ cls := "java/lang/Object", name := "<init>", desc := "()V" } : Jvm.MethodName) object_method_1_code (1 : Nat) (Option.none : Option Jvm.ClassFile.FieldType)).before args0 about1 = true := code_word (m := ⟨0, 0⟩) (meth := k0m0) (c := k0c0) (by decide +kernel) rfl rfl rfl (by decide +kernel)
set_option maxRecDepth 65536 in
theorem w_c4 : (Jvm.Cond.code ({ cls := "com/example/ample_gap/amplegap/model/Ranges", name := "requirePositive", desc := "(Ljava/lang/String;D)D" } : Jvm.MethodName) prog_30_method_2_code (3 : Nat) (Option.some Jvm.ClassFile.FieldType.double)).before args0 about1 = true := code_word (m := ⟨9, 1⟩) (meth := k9m1) (c := k9c1) (by decide +kernel) rfl rfl rfl (by decide +kernel)
set_option maxRecDepth 65536 in
theorem w_c5 : (Jvm.Cond.code ({ cls := "com/example/ample_gap/amplegap/model/Ranges", name := "requireFinite", desc := "(Ljava/lang/String;D)D" } : Jvm.MethodName) prog_30_method_5_code (3 : Nat) (Option.some Jvm.ClassFile.FieldType.double)).before args0 about1 = true := code_word (m := ⟨9, 3⟩) (meth := k9m3) (c := k9c3) (by decide +kernel) rfl rfl rfl (by decide +kernel)
set_option maxRecDepth 65536 in
theorem w_c6 : (Jvm.Cond.code ({ cls := "java/lang/Double", name := "isFinite", desc := "(D)Z" } : Jvm.MethodName) jdk_117_method_8_code (2 : Nat) (Option.some Jvm.ClassFile.FieldType.boolean)).before args0 about1 = true := code_word (m := ⟨11, 0⟩) (meth := k11m0) (c := k11c0) (by decide +kernel) rfl rfl rfl (by decide +kernel)
set_option maxRecDepth 65536 in
theorem w_c7 : (Jvm.Cond.code ({ cls := "java/lang/Math", name := "abs", desc := "(D)D" } : Jvm.MethodName) jdk_29_method_64_code (2 : Nat) (Option.some Jvm.ClassFile.FieldType.double)).before args0 about1 = true := code_word (m := ⟨12, 1⟩) (meth := k12m1) (c := k12c1) (by decide +kernel) rfl rfl rfl (by decide +kernel)
set_option maxRecDepth 65536 in
theorem w_c8 : (Jvm.Cond.code ({ cls := "com/example/ample_gap/amplegap/simulation/Road", name := "hasLane", desc := "(I)Z" } : Jvm.MethodName) prog_49_method_13_code (2 : Nat) (Option.some Jvm.ClassFile.FieldType.boolean)).before args0 about1 = true := code_word (m := ⟨2, 7⟩) (meth := k2m7) (c := k2c7) (by decide +kernel) rfl rfl rfl (by decide +kernel)
set_option maxRecDepth 65536 in
theorem w_c9 : (Jvm.Cond.code ({ cls := "com/example/ample_gap/amplegap/simulation/Road", name := "lowestLane", desc := "()I" } : Jvm.MethodName) prog_49_method_12_code (1 : Nat) (Option.some Jvm.ClassFile.FieldType.int)).before args0 about1 = true := code_word (m := ⟨2, 6⟩) (meth := k2m6) (c := k2c6) (by decide +kernel) rfl rfl rfl (by decide +kernel)
set_option maxRecDepth 65536 in
theorem w_c10 : (Jvm.Cond.code ({ cls := "com/example/ample_gap/amplegap/simulation/Road", name := "ring", desc := "(DI)Lcom/example/ample_gap/amplegap/simulation/Road;" } : Jvm.MethodName) prog_49_method_6_code (3 : Nat) (Option.some (Jvm.ClassFile.FieldType.object "com/example/ample_gap/amplegap/simulation/Road"))).before args0 about1 = true := code_word (m := ⟨2, 4⟩) (meth := k2m4) (c := k2c4) (by decide +kernel) rfl rfl rfl (by decide +kernel)
set_option maxRecDepth 65536 in
theorem w_c11 : (Jvm.Cond.code ({ cls := "com/example/ample_gap/amplegap/simulation/Road", name := "<init>", desc := "(D)V" } : Jvm.MethodName) prog_49_method_1_code (3 : Nat) (Option.none : Option Jvm.ClassFile.FieldType)).before args0 about1 = true := code_word (m := ⟨2, 0⟩) (meth := k2m0) (c := k2c0) (by decide +kernel) rfl rfl rfl (by decide +kernel)
set_option maxRecDepth 65536 in
theorem w_c12 : (Jvm.Cond.code ({ cls := "com/example/ample_gap/amplegap/simulation/OnRamp", name := "<init>", desc := "(DD)V" } : Jvm.MethodName) prog_45_method_1_code (5 : Nat) (Option.none : Option Jvm.ClassFile.FieldType)).before args0 about1 = true := code_word (m := ⟨13, 0⟩) (meth := k13m0) (c := k13c0) (by decide +kernel) rfl rfl rfl (by decide +kernel)
set_option maxRecDepth 65536 in
theorem w_c13 : (Jvm.Cond.code ({ cls := "com/example/ample_gap/amplegap/model/Ranges", name := "requireNonNegative", desc := "(Ljava/lang/String;D)D" } : Jvm.MethodName) prog_30_method_3_code (3 : Nat) (Option.some Jvm.ClassFile.FieldType.double)).before args0 about1 = true := code_word (m := ⟨9, 2⟩) (meth := k9m2) (c := k9c2) (by decide +kernel) rfl rfl rfl (by decide +kernel)
set_option maxRecDepth 65536 in
theorem w_c14 : (Jvm.Cond.code ({ cls := "com/example/ample_gap/amplegap/simulation/Road", name := "withOnRamp", desc := "(Lcom/example/ample_gap/amplegap/simulation/OnRamp;)Lcom/example/ample_gap/amplegap/simulation/Road;" } : Jvm.MethodName) prog_49_method_10_code (2 : Nat) (Option.some (Jvm.ClassFile.FieldType.object "com/example/ample_gap/amplegap/simulation/Road"))).before args0 about1 = true := code_word (m := ⟨2, 5⟩) (meth := k2m5) (c := k2c5) (by decide +kernel) rfl rfl rfl (by decide +kernel)
set_option maxRecDepth 65536 in
theorem w_c15 : (Jvm.Cond.code ({ cls := "java/util/Objects", name := "requireNonNull", desc := "(Ljava/lang/Object;Ljava/lang/String;)Ljava/lang/Object;" } : Jvm.MethodName) jdk_31_method_11_code (2 : Nat) (Option.some (Jvm.ClassFile.FieldType.object "java/lang/Object"))).before args0 about1 = true := code_word (m := ⟨14, 1⟩) (meth := k14m1) (c := k14c1) (by decide +kernel) rfl rfl rfl (by decide +kernel)
set_option maxRecDepth 65536 in
theorem w_c16 : (Jvm.Cond.code ({ cls := "com/example/ample_gap/amplegap/simulation/OnRamp", name := "end", desc := "()D" } : Jvm.MethodName) prog_45_method_3_code (1 : Nat) (Option.some Jvm.ClassFile.FieldType.double)).before args0 about1 = true := code_word (m := ⟨13, 1⟩) (meth := k13m1) (c := k13c1) (by decide +kernel) rfl rfl rfl (by decide +kernel)
set_option maxRecDepth 65536 in
theorem w_c17 : (Jvm.Cond.code ({ cls := "com/example/ample_gap/amplegap/simulation/Road", name := "<init>", desc := "(Lcom/example/ample_gap/amplegap/simulation/Road;Lcom/example/ample_gap/amplegap/simulation/OnRamp;)V" } : Jvm.MethodName) prog_49_method_4_code (3 : Nat) (Option.none : Option Jvm.ClassFile.FieldType)).before args0 about1 = true := code_word (m := ⟨2, 3⟩) (meth := k2m3) (c := k2c3) (by decide +kernel) rfl rfl rfl (by decide +kernel)
def codes1 : List Jvm.Cond := [Jvm.Cond.code x code maxLocals ret, Jvm.Cond.code ({ cls := "com/example/ample_gap/amplegap/simulation/Road", name := "<init>", desc := "(DI)V" } : Jvm.MethodName) prog_49_method_2_code (4 : Nat) (Option.none : Option Jvm.ClassFile.FieldType), Jvm.Cond.code ({ cls := "com/example/ample_gap/amplegap/simulation/Road", name := "<init>", desc := "(DIZ)V" } : Jvm.MethodName) prog_49_method_3_code (5 : Nat) (Option.none : Option Jvm.ClassFile.FieldType), Jvm.Cond.code ({ cls := "java/lang/Object", name := "<init>", desc := "()V" } : Jvm.MethodName) object_method_1_code (1 : Nat) (Option.none : Option Jvm.ClassFile.FieldType), Jvm.Cond.code ({ cls := "com/example/ample_gap/amplegap/model/Ranges", name := "requirePositive", desc := "(Ljava/lang/String;D)D" } : Jvm.MethodName) prog_30_method_2_code (3 : Nat) (Option.some Jvm.ClassFile.FieldType.double), Jvm.Cond.code ({ cls := "com/example/ample_gap/amplegap/model/Ranges", name := "requireFinite", desc := "(Ljava/lang/String;D)D" } : Jvm.MethodName) prog_30_method_5_code (3 : Nat) (Option.some Jvm.ClassFile.FieldType.double), Jvm.Cond.code ({ cls := "java/lang/Double", name := "isFinite", desc := "(D)Z" } : Jvm.MethodName) jdk_117_method_8_code (2 : Nat) (Option.some Jvm.ClassFile.FieldType.boolean), Jvm.Cond.code ({ cls := "java/lang/Math", name := "abs", desc := "(D)D" } : Jvm.MethodName) jdk_29_method_64_code (2 : Nat) (Option.some Jvm.ClassFile.FieldType.double), Jvm.Cond.code ({ cls := "com/example/ample_gap/amplegap/simulation/Road", name := "hasLane", desc := "(I)Z" } : Jvm.MethodName) prog_49_method_13_code (2 : Nat) (Option.some Jvm.ClassFile.FieldType.boolean), Jvm.Cond.code ({ cls := "com/example/ample_gap/amplegap/simulation/Road", name := "lowestLane", desc := "()I" } : Jvm.MethodName) prog_49_method_12_code (1 : Nat) (Option.some Jvm.ClassFile.FieldType.int), Jvm.Cond.code ({ cls := "com/example/ample_gap/amplegap/simulation/Road", name := "ring", desc := "(DI)Lcom/example/ample_gap/amplegap/simulation/Road;" } : Jvm.MethodName) prog_49_method_6_code (3 : Nat) (Option.some (Jvm.ClassFile.FieldType.object "com/example/ample_gap/amplegap/simulation/Road")), Jvm.Cond.code ({ cls := "com/example/ample_gap/amplegap/simulation/Road", name := "<init>", desc := "(D)V" } : Jvm.MethodName) prog_49_method_1_code (3 : Nat) (Option.none : Option Jvm.ClassFile.FieldType), Jvm.Cond.code ({ cls := "com/example/ample_gap/amplegap/simulation/OnRamp", name := "<init>", desc := "(DD)V" } : Jvm.MethodName) prog_45_method_1_code (5 : Nat) (Option.none : Option Jvm.ClassFile.FieldType), Jvm.Cond.code ({ cls := "com/example/ample_gap/amplegap/model/Ranges", name := "requireNonNegative", desc := "(Ljava/lang/String;D)D" } : Jvm.MethodName) prog_30_method_3_code (3 : Nat) (Option.some Jvm.ClassFile.FieldType.double), Jvm.Cond.code ({ cls := "com/example/ample_gap/amplegap/simulation/Road", name := "withOnRamp", desc := "(Lcom/example/ample_gap/amplegap/simulation/OnRamp;)Lcom/example/ample_gap/amplegap/simulation/Road;" } : Jvm.MethodName) prog_49_method_10_code (2 : Nat) (Option.some (Jvm.ClassFile.FieldType.object "com/example/ample_gap/amplegap/simulation/Road")), Jvm.Cond.code ({ cls := "java/util/Objects", name := "requireNonNull", desc := "(Ljava/lang/Object;Ljava/lang/String;)Ljava/lang/Object;" } : Jvm.MethodName) jdk_31_method_11_code (2 : Nat) (Option.some (Jvm.ClassFile.FieldType.object "java/lang/Object")), Jvm.Cond.code ({ cls := "com/example/ample_gap/amplegap/simulation/OnRamp", name := "end", desc := "()D" } : Jvm.MethodName) prog_45_method_3_code (1 : Nat) (Option.some Jvm.ClassFile.FieldType.double), Jvm.Cond.code ({ cls := "com/example/ample_gap/amplegap/simulation/Road", name := "<init>", desc := "(Lcom/example/ample_gap/amplegap/simulation/Road;Lcom/example/ample_gap/amplegap/simulation/OnRamp;)V" } : Jvm.MethodName) prog_49_method_4_code (3 : Nat) (Option.none : Option Jvm.ClassFile.FieldType)]
set_option maxRecDepth 65536 in
theorem codes_eq : words1.filter isCode = codes1 := rfl
theorem w_codes : ∀ c ∈ words1.filter isCode, c.before args0 about1 = true := by
  rw [codes_eq]
  intro c hc
  simp only [codes1, List.mem_cons, List.not_mem_nil, or_false] at hc
  rcases hc with rfl | rfl | rfl | rfl | rfl | rfl | rfl | rfl | rfl | rfl | rfl | rfl | rfl | rfl | rfl | rfl | rfl | rfl
  · exact w_c0
  · exact w_c1
  · exact w_c2
  · exact w_c3
  · exact w_c4
  · exact w_c5
  · exact w_c6
  · exact w_c7
  · exact w_c8
  · exact w_c9
  · exact w_c10
  · exact w_c11
  · exact w_c12
  · exact w_c13
  · exact w_c14
  · exact w_c15
  · exact w_c16
  · exact w_c17
set_option maxRecDepth 65536 in
theorem w_t1 : (words1.take 24).all (fun c => isCode c || c.before args0 about1) = true := by decide +kernel
set_option maxRecDepth 65536 in
theorem w_t2 : ((words1.drop 24).take 24).all (fun c => isCode c || c.before args0 about1) = true := by decide +kernel
set_option maxRecDepth 65536 in
theorem w_t3 : (((words1.drop 24).drop 24).take 24).all (fun c => isCode c || c.before args0 about1) = true := by decide +kernel
set_option maxRecDepth 65536 in
theorem w_t4 : ((((words1.drop 24).drop 24).drop 24).take 24).all (fun c => isCode c || c.before args0 about1) = true := by decide +kernel
set_option maxRecDepth 65536 in
theorem w_t5 : ((((words1.drop 24).drop 24).drop 24).drop 24).all (fun c => isCode c || c.before args0 about1) = true := by decide +kernel
theorem w_tables : (allAtoms (Jvm.Cond.code x code maxLocals ret :: tables_1)).before args0 about1 = true := by
  rw [allAtoms_all]
  show words1.all (fun c => c.before args0 about1) = true
  refine all_split ?_ w_codes
  rw [← List.take_append_drop 24 words1, List.all_append, w_t1, ← List.take_append_drop 24 (words1.drop 24), List.all_append, w_t2, ← List.take_append_drop 24 ((words1.drop 24).drop 24), List.all_append, w_t3, ← List.take_append_drop 24 (((words1.drop 24).drop 24).drop 24), List.all_append, w_t4, w_t5]
  rfl
set_option maxRecDepth 65536 in
theorem w_case : (Jvm.Cond.and given_1 narrow_1).before args0 about1 = true := by decide +kernel
theorem w_applies : (headSpec (Jvm.Cond.code x code maxLocals ret :: tables_1) room_1).applies x e0.platform about1 = true :=
  (Spec.applies_iff w_frames).mpr ⟨w_running, w_runnable, w_alone, w_named, w_hears, w_ripe, w_room, w_tables⟩
theorem atStart : AtStart classFile x code maxLocals ret World_1 tables_1 room_1 Calls_1 rest_1 Pre_1 launch0 p0 e0 about1 theMethod args0 below0 :=
  ⟨lists_1, trivial, launch0.admits_env _ _ _, launch0.least_env, fairChoices_fair.cas, fairChoices_fair.clock, w_frames, w_args, w_heap, w_applies, trivial, trivial, w_case⟩
end start1
theorem witness_1 : WitnessClaimed_1 := ⟨start1.p0, start1.e0, start1.about1, start1.theMethod, start1.args0, start1.below0, start1.atStart⟩
end Jvm.Pilot.@@N@@
