import JvmDerived
import JvmDerived.Pilot.@@N@@Statement
import JvmDerived.Pilot.@@N@@Code
set_option linter.unusedVariables false
set_option linter.unusedSimpArgs false
namespace Jvm.Pilot.@@N@@
open Jvm Jvm.ClassFile Sem Op Lib Jvm.Free Jvm.Stand Jvm.LawKit Jvm.RoadKit Bundle Jvm.Pilot.@@N@@.Jvm.D
def own_sh (n : Int32) (z : Int64) : Int64 := (z.toUInt64 >>> ((n : Int32) &&& 0x3f).toInt64.toUInt64).toInt64
theorem own_sh_bv (n : Int32) (k : Nat) (z : Int64) (h : (((n : Int32) &&& 0x3f).toInt64.toUInt64).toBitVec.toNat % 64 = k) : (own_sh n z).toBitVec = z.toBitVec >>> k := by
  have e : (own_sh n z).toBitVec = (z.toUInt64 >>> ((n : Int32) &&& 0x3f).toInt64.toUInt64).toBitVec := rfl
  rw [e, UInt64.toBitVec_shiftRight]
  show z.toBitVec >>> _ = _
  rw [← h]
  show z.toBitVec >>> (BitVec.toNat (_ % 64)) = _
  rw [BitVec.toNat_umod]
  rfl
def own_mA (z : Int64) : Int64 := (z ^^^ own_sh 30 z) * (-4658895280553007687 : Int64)
def own_mB (z : Int64) : Int64 := (z ^^^ own_sh 27 z) * (-7723592293110705685 : Int64)
def own_mC (z : Int64) : Int64 := z ^^^ own_sh 31 z
def own_mix (z : Int64) : Int64 := own_mC (own_mB (own_mA z))
/-! a double that is n / 2^k, exactly: in units of 2^-4000 -/
def own_B : Nat := 4000
theorem own_pl (k : Nat) : (0 : Int) < ((2 ^ k : Nat) : Int) := Int.natCast_pos.mpr (Nat.two_pow_pos k)
theorem own_pp (k : Nat) : ((2 ^ k : Nat) : Int) ≠ 0 := Int.ne_of_gt (own_pl k)
def own_M (c : Nat) (q : Int) : Nat := c * 2 ^ (q + (own_B : Int)).toNat
def own_D (k : Nat) (n : Int) (x : UInt64) : Prop := ∃ s c q, FP.Core.val64 x = .fin s c q ∧ FP.Core.signed s (own_M c q) = n * ((2 ^ (own_B - k) : Nat) : Int)
theorem own_qmin : FP.Core.b64.qmin = -1074 := by decide
theorem own_qmax : FP.Core.b64.qmax = 971 := by decide
theorem own_tails : FP.Core.b64.tails = 2 ^ 52 := by decide
theorem own_D_fin {k : Nat} {n : Int} {x : UInt64} (h : own_D k n x) : FP.Core.val64 x ≠ .nan := by
  obtain ⟨s, c, q, e, -⟩ := h
  rw [e]; simp
theorem own_D_nn {k : Nat} {n : Int} {x : UInt64} (h : own_D k n x) : Jvm.Free.Fl.NoNaN64 x := Jvm.Free.Fl.val64_no.mpr (own_D_fin h)
theorem own_fits {x : UInt64} {s : Bool} {c : Nat} {q : Int} (e : FP.Core.val64 x = .fin s c q) : c < 2 ^ 53 ∧ -1074 ≤ q ∧ q ≤ 971 := by
  have h := FP.Core.val64_fits x
  rw [e] at h
  obtain ⟨h1, h2, h3, -⟩ := h
  rw [own_qmin] at h2
  rw [own_qmax] at h3
  exact ⟨h1, h2, h3⟩
/-- what stands for n / 2^k as a sign and a magnitude -/
theorem own_abs {s : Bool} {A : Nat} {n : Int} {P : Nat} (h : FP.Core.signed s A = n * ((P : Nat) : Int)) : A = n.natAbs * P := by
  have := congrArg Int.natAbs h
  rw [FP.Core.natAbs_signed, Int.natAbs_mul, Int.natAbs_natCast] at this
  exact this
/-- the same number, written with n and 2^-k -/
theorem own_write {c N k : Nat} {q : Int} (hq : -4000 ≤ q) (hk : k ≤ 4000) (h : own_M c q = N * 2 ^ (own_B - k)) : c * 1 * 2 ^ (q - (-(k : Int))).toNat = N * 1 * 2 ^ (-(k : Int) - q).toNat := by
  have hB : own_B = 4000 := rfl
  unfold own_M at h
  rw [Nat.mul_one, Nat.mul_one]
  by_cases hc : -(k : Int) ≤ q
  · have e1 : (q + (own_B : Int)).toNat = (q - (-(k : Int))).toNat + (own_B - k) := by omega
    have e2 : (-(k : Int) - q).toNat = 0 := by omega
    rw [e1, Nat.pow_add, ← Nat.mul_assoc] at h
    rw [e2, Nat.pow_zero, Nat.mul_one]
    exact Nat.eq_of_mul_eq_mul_right (Nat.two_pow_pos _) h
  · have e1 : own_B - k = (-(k : Int) - q).toNat + (q + (own_B : Int)).toNat := by omega
    have e2 : (q - (-(k : Int))).toNat = 0 := by omega
    rw [e1, Nat.pow_add, ← Nat.mul_assoc] at h
    rw [e2, Nat.pow_zero, Nat.mul_one]
    exact Nat.eq_of_mul_eq_mul_right (Nat.two_pow_pos _) h
/-- N / 2^k rounds to itself -/
theorem own_rnd {k N : Nat} (hk : k ≤ 900) (hN : N ≤ 2 ^ 53) (s : Bool) : ∃ c q, FP.Core.roundRatio FP.Core.b64 s N 1 (-(k : Int)) = .fin s c q ∧ own_M c q = N * 2 ^ (own_B - k) := by
  have hB : own_B = 4000 := rfl
  by_cases h0 : N = 0
  · subst h0
    exact ⟨0, FP.Core.b64.qmin, rfl, by rw [own_M, Nat.zero_mul, Nat.zero_mul]⟩
  · obtain ⟨c, q, ⟨f1, f2, f3, f4⟩, hv⟩ := FP.Core.natFit FP.Core.good_b64 FP.Core.wide_b64 s (n := N) hN
    have f1' : c < 2 ^ 53 := f1
    rw [own_qmin] at f2 f4
    rw [own_qmax] at f3
    rw [own_tails] at f4
    have hq2 : -52 ≤ q := by
      refine Int.not_lt.mp fun hlt => ?_
      have e1 : (q - 0).toNat = 0 := by omega
      have e2 : 53 ≤ (0 - q).toNat := by omega
      rw [e1, Nat.pow_zero, Nat.mul_one, Nat.mul_one] at hv
      have e3 : 2 ^ 53 ≤ 2 ^ (0 - q).toNat := Nat.pow_le_pow_right (by decide) e2
      have e4 : 1 * 2 ^ (0 - q).toNat ≤ N * 2 ^ (0 - q).toNat := Nat.mul_le_mul_right _ (by omega)
      rw [hv, Nat.one_mul] at e4
      exact absurd (Nat.lt_of_lt_of_le f1' e3) (Nat.not_lt.mpr e4)
    have f4' : 2 ^ 52 ≤ c := by
      rcases f4 with f4 | f4
      · omega
      · exact f4
    have hfit : FP.Core.fits FP.Core.b64 (.fin s c (q - (k : Int))) := ⟨f1, by rw [own_qmin]; omega, by rw [own_qmax]; omega, Or.inr (by rw [own_tails]; exact f4')⟩
    refine ⟨c, q - (k : Int), FP.Core.roundRatio_exact FP.Core.good_b64 (by decide) hfit ?_, ?_⟩
    · rw [show (-(k : Int) - (q - (k : Int))).toNat = (0 - q).toNat by omega, show (q - (k : Int) - -(k : Int)).toNat = (q - 0).toNat by omega]
      exact hv
    · unfold own_M
      rw [Nat.mul_one] at hv
      by_cases hc : 0 ≤ q
      · rw [show (0 - q).toNat = 0 by omega, Nat.pow_zero, Nat.mul_one, show (q - 0).toNat = q.toNat by omega] at hv
        rw [show (q - (k : Int) + (own_B : Int)).toNat = q.toNat + (own_B - k) by omega, Nat.pow_add, ← Nat.mul_assoc, ← hv]
      · rw [show (q - 0).toNat = 0 by omega, Nat.pow_zero, Nat.mul_one] at hv
        rw [← hv, Nat.mul_assoc, ← Nat.pow_add]
        congr 2
        omega
theorem own_round {k : Nat} (hk : k ≤ 900) {n : Int} (hn : n.natAbs ≤ 2 ^ 53) {s : Bool} {c : Nat} {q : Int} (hq : -4000 ≤ q) (h : FP.Core.signed s (own_M c q) = n * ((2 ^ (own_B - k) : Nat) : Int)) :
    ∃ c' q', FP.Core.roundRatio FP.Core.b64 s c 1 q = .fin s c' q' ∧ FP.Core.signed s (own_M c' q') = n * ((2 ^ (own_B - k) : Nat) : Int) := by
  have hB : own_B = 4000 := rfl
  have ha := own_abs h
  obtain ⟨c', q', e1, e2⟩ := own_rnd hk hn s
  refine ⟨c', q', ?_, ?_⟩
  · rw [← e1]
    exact FP.Core.roundRatio_congr (by decide) (by decide) (own_write hq (by omega) ha)
  · rw [e2, ← ha]; exact h
theorem own_D_l2d {a : Int64} (h : B53 a) : own_D 0 a.toInt (FP.l2d a) := by
  have hB : own_B = 4000 := rfl
  obtain ⟨c, q, e⟩ := FP.Core.l2d_shape a
  have hw := FP.Core.l2d_whole h
  rw [e] at hw
  have hf := own_fits e
  refine ⟨_, c, q, e, ?_⟩
  have hu := FP.Core.whole_units hw (e := -(own_B : Int)) (by omega)
  unfold own_M
  unfold FP.Core.inUnits at hu
  rw [show (q - -(own_B : Int)).toNat = (q + (own_B : Int)).toNat by omega] at hu
  simpa using hu
theorem own_sum {k : Nat} (hk : k ≤ 900) {n m : Int} (hn : (n + m).natAbs ≤ 2 ^ 53) {s t : Bool} {c d : Nat} {q r : Int} (hq : -1074 ≤ q) (hr : -1074 ≤ r) (h1 : FP.Core.signed s (own_M c q) = n * ((2 ^ (own_B - k) : Nat) : Int)) (h2 : FP.Core.signed t (own_M d r) = m * ((2 ^ (own_B - k) : Nat) : Int)) :
    ∃ s' c' q', FP.Core.round FP.Core.b64 (FP.Core.exactSum (.fin s c q) (.fin t d r)) = .fin s' c' q' ∧ FP.Core.signed s' (own_M c' q') = (n + m) * ((2 ^ (own_B - k) : Nat) : Int) := by
  have hB : own_B = 4000 := rfl
  have hm : -4000 ≤ min q r := by omega
  have key : FP.Core.signed (FP.Core.sumSign s t (FP.Core.sumUnits s c q t d r (min q r))) (own_M (FP.Core.sumUnits s c q t d r (min q r)).natAbs (min q r)) = (n + m) * ((2 ^ (own_B - k) : Nat) : Int) := by
    unfold own_M
    rw [FP.Core.signed_mul, FP.Core.signed_sumSign]
    unfold FP.Core.sumUnits
    rw [Int.add_mul, ← FP.Core.signed_mul, ← FP.Core.signed_mul]
    unfold FP.Core.inUnits
    rw [Nat.mul_assoc, ← Nat.pow_add, Nat.mul_assoc, ← Nat.pow_add, show (q - min q r).toNat + (min q r + (own_B : Int)).toNat = (q + (own_B : Int)).toNat by omega, show (r - min q r).toNat + (min q r + (own_B : Int)).toNat = (r + (own_B : Int)).toNat by omega, Int.add_mul]
    unfold own_M at h1 h2
    rw [h1, h2]
  obtain ⟨c', q', e1, e2⟩ := own_round hk hn hm key
  exact ⟨_, c', q', e1, e2⟩
theorem own_D_add {k : Nat} {n m : Int} {x y : UInt64} (hx : own_D k n x) (hy : own_D k m y) (hk : k ≤ 900) (hn : (n + m).natAbs ≤ 2 ^ 53) : own_D k (n + m) (FP.dadd x y) := by
  have hB : own_B = 4000 := rfl
  obtain ⟨s, c, q, e, h⟩ := hx
  obtain ⟨t, d, r, e', h'⟩ := hy
  obtain ⟨s', c', q', g1, g2⟩ := own_sum hk hn (own_fits e).2.1 (own_fits e').2.1 h h'
  exact ⟨s', c', q', by rw [FP.Core.val64_dadd, e, e', g1], g2⟩
theorem own_D_sub {k : Nat} {n m : Int} {x y : UInt64} (hx : own_D k n x) (hy : own_D k m y) (hk : k ≤ 900) (hn : (n - m).natAbs ≤ 2 ^ 53) : own_D k (n - m) (FP.dsub x y) := by
  have hB : own_B = 4000 := rfl
  obtain ⟨s, c, q, e, h⟩ := hx
  obtain ⟨t, d, r, e', h'⟩ := hy
  have h2 : FP.Core.signed (!t) (own_M d r) = (-m) * ((2 ^ (own_B - k) : Nat) : Int) := by
    rw [Int.neg_mul, ← h']
    cases t <;> simp [FP.Core.signed]
  rw [Int.sub_eq_add_neg] at hn ⊢
  obtain ⟨s', c', q', g1, g2⟩ := own_sum hk hn (own_fits e).2.1 (own_fits e').2.1 h h2
  exact ⟨s', c', q', by rw [FP.Core.val64_dsub, e, e']; exact g1, g2⟩
theorem own_D_mul {k j : Nat} {n m : Int} {x y : UInt64} (hx : own_D k n x) (hy : own_D j m y) (hk : k + j ≤ 900) (hn : (n * m).natAbs ≤ 2 ^ 53) : own_D (k + j) (n * m) (FP.dmul x y) := by
  have hB : own_B = 4000 := rfl
  obtain ⟨s, c, q, e, h⟩ := hx
  obtain ⟨t, d, r, e', h'⟩ := hy
  have hq := (own_fits e).2.1
  have hr := (own_fits e').2.1
  have key : FP.Core.signed (s != t) (own_M (c * d) (q + r)) = (n * m) * ((2 ^ (own_B - (k + j)) : Nat) : Int) := by
    have p : ((2 ^ own_B : Nat) : Int) ≠ 0 := own_pp _
    refine Int.eq_of_mul_eq_mul_right p ?_
    rw [← FP.Core.signed_mul]
    have e1 : own_M (c * d) (q + r) * 2 ^ own_B = own_M c q * own_M d r := by
      unfold own_M
      rw [Nat.mul_assoc, ← Nat.pow_add, show (q + r + (own_B : Int)).toNat + own_B = (q + (own_B : Int)).toNat + (r + (own_B : Int)).toNat by omega, Nat.pow_add, Nat.mul_mul_mul_comm]
    rw [e1, FP.Core.signed_xor, h, h']
    have e2 : (2 ^ (own_B - k) : Nat) * 2 ^ (own_B - j) = 2 ^ (own_B - (k + j)) * 2 ^ own_B := by
      rw [← Nat.pow_add, ← Nat.pow_add, show own_B - k + (own_B - j) = own_B - (k + j) + own_B by omega]
    have e3 : ((2 ^ (own_B - k) : Nat) : Int) * ((2 ^ (own_B - j) : Nat) : Int) = ((2 ^ (own_B - (k + j)) : Nat) : Int) * ((2 ^ own_B : Nat) : Int) := by
      rw [← Int.natCast_mul, ← Int.natCast_mul, e2]
    generalize ((2 ^ (own_B - k) : Nat) : Int) = P at e3 ⊢
    generalize ((2 ^ (own_B - j) : Nat) : Int) = Q at e3 ⊢
    rw [Int.mul_assoc (n * m), ← e3]
    rw [Int.mul_assoc, Int.mul_assoc, Int.mul_left_comm P m Q]
  obtain ⟨c', q', g1, g2⟩ := own_round hk hn (by omega) key
  exact ⟨_, c', q', by rw [FP.Core.val64_dmul, e, e']; exact g1, g2⟩
/-- a division by 2^i -/
theorem own_D_div {k i : Nat} {n : Int} {x y : UInt64} {r : Int} (hx : own_D k n x) (hy : FP.Core.val64 y = .fin false (2 ^ 52) r) (hr : r = (i : Int) - 52) (hk : k + i ≤ 900) (hn : n.natAbs ≤ 2 ^ 53) : own_D (k + i) n (FP.ddiv x y) := by
  have hB : own_B = 4000 := rfl
  obtain ⟨s, c, q, e, h⟩ := hx
  have hf := own_fits e
  have e1 : FP.Core.roundRatio FP.Core.b64 (s != false) c (2 ^ 52) (q - r) = FP.Core.roundRatio FP.Core.b64 s c 1 (q - (i : Int)) := by
    rw [show (s != false) = s by cases s <;> rfl]
    refine FP.Core.roundRatio_congr (by decide) (by decide) ?_
    rw [show (q - r - (q - (i : Int))).toNat = 52 by omega, show (q - (i : Int) - (q - r)).toNat = 0 by omega, Nat.mul_one, Nat.pow_zero, Nat.mul_one]
  have key : FP.Core.signed s (own_M c (q - (i : Int))) = n * ((2 ^ (own_B - (k + i)) : Nat) : Int) := by
    have p : ((2 ^ i : Nat) : Int) ≠ 0 := own_pp _
    refine Int.eq_of_mul_eq_mul_right p ?_
    rw [← FP.Core.signed_mul]
    have e2 : own_M c (q - (i : Int)) * 2 ^ i = own_M c q := by
      unfold own_M
      rw [Nat.mul_assoc, ← Nat.pow_add, show (q - (i : Int) + (own_B : Int)).toNat + i = (q + (own_B : Int)).toNat by omega]
    have e3 : ((2 ^ (own_B - (k + i)) : Nat) : Int) * ((2 ^ i : Nat) : Int) = ((2 ^ (own_B - k) : Nat) : Int) := by
      rw [← Int.natCast_mul, ← Nat.pow_add, show own_B - (k + i) + i = own_B - k by omega]
    rw [e2, h, Int.mul_assoc, e3]
  obtain ⟨c', q', g1, g2⟩ := own_round hk hn (by omega) key
  refine ⟨s, c', q', ?_, g2⟩
  rw [FP.Core.val64_ddiv, e, hy]
  show (if (2 ^ 52 : Nat) = 0 then (if c = 0 then FP.Core.Datum.nan else FP.Core.Datum.inf (s != false)) else FP.Core.roundRatio FP.Core.b64 (s != false) c (2 ^ 52) (q - r)) = _
  rw [if_neg (by decide), e1, g1]
theorem own_zv {k : Nat} (hk : k ≤ 900) {n : Int} {x : UInt64} (hx : own_D k n x) : FP.Core.zval FP.Core.b64 (FP.Core.val64 x) * ((2 ^ (own_B - 1074) : Nat) : Int) = n * ((2 ^ (own_B - k) : Nat) : Int) := by
  have hB : own_B = 4000 := rfl
  obtain ⟨s, c, q, e, h⟩ := hx
  have hf := own_fits e
  rw [e, ← h]
  show FP.Core.signed s (FP.Core.inUnits c q FP.Core.b64.qmin) * _ = _
  rw [← FP.Core.signed_mul, own_qmin]
  unfold FP.Core.inUnits own_M
  rw [Nat.mul_assoc, ← Nat.pow_add, show (q - -1074).toNat + (own_B - 1074) = (q + (own_B : Int)).toNat by omega]
theorem own_scale {a b n m P Q : Int} (hP : 0 < P) (hQ : 0 < Q) (h1 : a * P = n * Q) (h2 : b * P = m * Q) : (a < b ↔ n < m) ∧ (a = b ↔ n = m) := by
  constructor
  · constructor
    · intro h
      have := Int.mul_lt_mul_of_pos_right h hP
      rw [h1, h2] at this
      exact Int.lt_of_mul_lt_mul_right this (Int.le_of_lt hQ)
    · intro h
      have := Int.mul_lt_mul_of_pos_right h hQ
      rw [← h1, ← h2] at this
      exact Int.lt_of_mul_lt_mul_right this (Int.le_of_lt hP)
  · constructor
    · intro h
      rw [h, h2] at h1
      exact (Int.eq_of_mul_eq_mul_right (by omega) h1).symm
    · intro h
      rw [h, ← h2] at h1
      exact Int.eq_of_mul_eq_mul_right (by omega) h1
theorem own_cmp {k : Nat} (hk : k ≤ 900) {n m : Int} {x y : UInt64} (hx : own_D k n x) (hy : own_D k m y) : FP.dcmp x y = some (compare n m) := by
  show FP.Core.dcmp x y = _
  rw [FP.Core.dcmp_zval (own_D_fin hx) (own_D_fin hy)]
  have P : (0 : Int) < ((2 ^ (own_B - 1074) : Nat) : Int) := own_pl _
  have Q : (0 : Int) < ((2 ^ (own_B - k) : Nat) : Int) := own_pl _
  have := own_scale P Q (own_zv hk hx) (own_zv hk hy)
  rw [FP.Core.compare_congr this.1 this.2]
/-- a product by 2^i -/
theorem own_D_up {k i : Nat} {n : Int} {x y : UInt64} {r : Int} (hx : own_D (k + i) n x) (hy : FP.Core.val64 y = .fin false (2 ^ 52) r) (hr : r = (i : Int) - 52) (hk : k + i ≤ 900) (hn : n.natAbs ≤ 2 ^ 53) : own_D k n (FP.dmul x y) := by
  have hB : own_B = 4000 := rfl
  obtain ⟨s, c, q, e, h⟩ := hx
  have hf := own_fits e
  have hs : (s != false) = s := by cases s <;> rfl
  have key : FP.Core.signed s (own_M (c * 2 ^ 52) (q + r)) = n * ((2 ^ (own_B - k) : Nat) : Int) := by
    have e2 : own_M (c * 2 ^ 52) (q + r) = own_M c q * 2 ^ i := by
      unfold own_M
      rw [Nat.mul_assoc, ← Nat.pow_add, Nat.mul_assoc, ← Nat.pow_add, show 52 + (q + r + (own_B : Int)).toNat = (q + (own_B : Int)).toNat + i by omega]
    have e3 : ((2 ^ (own_B - (k + i)) : Nat) : Int) * ((2 ^ i : Nat) : Int) = ((2 ^ (own_B - k) : Nat) : Int) := by
      rw [← Int.natCast_mul, ← Nat.pow_add, show own_B - (k + i) + i = own_B - k by omega]
    rw [e2, FP.Core.signed_mul, h, Int.mul_assoc, e3]
  obtain ⟨c', q', g1, g2⟩ := own_round (by omega) hn (by omega) key
  refine ⟨s, c', q', ?_, g2⟩
  rw [FP.Core.val64_dmul, e, hy]
  show FP.Core.roundRatio FP.Core.b64 (s != false) (c * 2 ^ 52) 1 (q + r) = _
  rw [hs, g1]
/-- a product by 2^-i -/
theorem own_D_down {k i : Nat} {n : Int} {x y : UInt64} {r : Int} (hx : own_D k n x) (hy : FP.Core.val64 y = .fin false (2 ^ 52) r) (hr : r = -(i : Int) - 52) (hk : k + i ≤ 900) (hn : n.natAbs ≤ 2 ^ 53) : own_D (k + i) n (FP.dmul x y) := by
  have hB : own_B = 4000 := rfl
  obtain ⟨s, c, q, e, h⟩ := hx
  have hf := own_fits e
  have hs : (s != false) = s := by cases s <;> rfl
  have key : FP.Core.signed s (own_M (c * 2 ^ 52) (q + r)) = n * ((2 ^ (own_B - (k + i)) : Nat) : Int) := by
    have p : ((2 ^ i : Nat) : Int) ≠ 0 := own_pp _
    refine Int.eq_of_mul_eq_mul_right p ?_
    have e2 : own_M (c * 2 ^ 52) (q + r) * 2 ^ i = own_M c q := by
      unfold own_M
      rw [Nat.mul_assoc, ← Nat.pow_add, Nat.mul_assoc, ← Nat.pow_add, show 52 + ((q + r + (own_B : Int)).toNat + i) = (q + (own_B : Int)).toNat by omega]
    have e3 : ((2 ^ (own_B - (k + i)) : Nat) : Int) * ((2 ^ i : Nat) : Int) = ((2 ^ (own_B - k) : Nat) : Int) := by
      rw [← Int.natCast_mul, ← Nat.pow_add, show own_B - (k + i) + i = own_B - k by omega]
    rw [← FP.Core.signed_mul, e2, h, Int.mul_assoc, e3]
  obtain ⟨c', q', g1, g2⟩ := own_round (by omega) hn (by omega) key
  refine ⟨s, c', q', ?_, g2⟩
  rw [FP.Core.val64_dmul, e, hy]
  show FP.Core.roundRatio FP.Core.b64 (s != false) (c * 2 ^ 52) 1 (q + r) = _
  rw [hs, g1]
theorem own_whole {n : Int} {x : UInt64} (hx : own_D 0 n x) : FP.Core.Whole n (FP.Core.val64 x) := by
  have hB : own_B = 4000 := rfl
  obtain ⟨s, c, q, e, h⟩ := hx
  have hf := own_fits e
  rw [e]
  show FP.Core.signed s (c * 2 ^ q.toNat) = n * ((2 ^ (-q).toNat : Nat) : Int)
  have p : ((2 ^ own_B : Nat) : Int) ≠ 0 := own_pp _
  refine Int.eq_of_mul_eq_mul_right p ?_
  unfold own_M at h
  rw [Nat.sub_zero] at h
  rw [← FP.Core.signed_mul, Nat.mul_assoc, ← Nat.pow_add, show q.toNat + own_B = (q + (own_B : Int)).toNat + (-q).toNat by omega, Nat.pow_add, ← Nat.mul_assoc, FP.Core.signed_mul, h, Int.mul_right_comm]
theorem own_D_zero {k : Nat} {x : UInt64} (hx : FP.Core.val64 x = .fin false 0 FP.Core.b64.qmin) : own_D k 0 x := ⟨_, _, _, hx, by rw [own_M, Nat.zero_mul, Int.zero_mul]; rfl⟩
theorem own_keep {h h' : Heap} (e : h' = h) : Keep h h' [] := e ▸ Keep.refl h []
def own_top (x : Int64) : Int64 := own_sh 11 x
def own_nd (x : Int64) : UInt64 := FP.dmul (FP.l2d (own_top x)) (4368491638549381120 : UInt64)
theorem own_top_in (x : Int64) : 0 ≤ (own_top x).toInt ∧ (own_top x).toInt < 2 ^ 53 := by
  have e : (own_top x).toBitVec = x.toBitVec >>> 11 := own_sh_bv 11 11 x (by decide)
  have e2 : (own_top x).toInt = (x.toBitVec >>> 11).toInt := by rw [← e]; rfl
  have hn : (x.toBitVec >>> 11).toNat < 2 ^ 53 := by
    rw [BitVec.toNat_ushiftRight, Nat.shiftRight_eq_div_pow]
    have := x.toBitVec.isLt
    omega
  rw [e2, BitVec.toInt_eq_toNat_of_lt (by omega)]
  omega
theorem own_top_b (x : Int64) : B53 (own_top x) := by
  have := own_top_in x
  exact ⟨by omega, by omega⟩
theorem own_k1 : FP.Core.val64 (4368491638549381120 : UInt64) = .fin false (2 ^ 52) (-105) := by decide +kernel
theorem own_k2 : FP.Core.val64 (4845873199050653696 : UInt64) = .fin false (2 ^ 52) 1 := by decide +kernel
theorem own_k3 : FP.Core.val64 FP.dconst0 = .fin false 0 FP.Core.b64.qmin := FP.Core.val64_dconst0
theorem own_k4 : FP.Core.val64 FP.dconst1 = .fin false (2 ^ 52) (-52) := FP.Core.val64_dconst1
theorem own_na (x : Int64) : (own_top x).toInt.natAbs ≤ 2 ^ 53 := by
  have := own_top_in x
  omega
theorem own_nd_D (x : Int64) : own_D 53 (own_top x).toInt (own_nd x) := by
  have := own_D_down (k := 0) (i := 53) (own_D_l2d (own_top_b x)) own_k1 (by decide) (by decide) (own_na x)
  rw [Nat.zero_add] at this
  exact this
theorem own_sc_D (x : Int64) : own_D 0 (own_top x).toInt (FP.dmul (own_nd x) (4845873199050653696 : UInt64)) :=
  own_D_up (k := 0) (i := 53) (by rw [Nat.zero_add]; exact own_nd_D x) own_k2 (by decide) (by decide) (own_na x)
theorem own_one : own_D 53 (2 ^ 53) FP.dconst1 := by
  have hB : own_B = 4000 := rfl
  refine ⟨_, _, _, own_k4, ?_⟩
  unfold own_M
  show ((2 ^ 52 * 2 ^ (-52 + (own_B : Int)).toNat : Nat) : Int) = 2 ^ 53 * _
  rw [show (2 : Int) ^ 53 = ((2 ^ 53 : Nat) : Int) by rfl, ← Int.natCast_mul, ← Nat.pow_add, ← Nat.pow_add, show 52 + (-52 + (own_B : Int)).toNat = 53 + (own_B - 53) by omega]
theorem own_c1 (x : Int64) : ¬ ((cmpValue (FP.dcmp (own_nd x) FP.dconst0) .l) < (0 : Int32)) := by
  rw [own_cmp (k := 53) (by decide) (own_nd_D x) (own_D_zero own_k3), cmpV_l]
  have h := (own_top_in x).1
  by_cases z : (own_top x).toInt = 0
  · rw [(FP.Core.compare_eq_iff _ _).mpr z]; decide
  · rw [(FP.Core.compare_gt_iff _ _).mpr (by omega)]; decide
theorem own_c2 (x : Int64) : (cmpValue (FP.dcmp (own_nd x) FP.dconst1) .g) < (0 : Int32) := by
  rw [own_cmp (k := 53) (by decide) (own_nd_D x) own_one, cmpV_g, (FP.Core.compare_lt_iff _ _).mpr (own_top_in x).2]
  decide
theorem own_c3 (x : Int64) : (cmpValue (FP.dcmp (FP.dmul (own_nd x) (4845873199050653696 : UInt64)) (FP.l2d (own_top x))) .l) = (0 : Int32) := by
  rw [own_cmp (k := 0) (by decide) (own_sc_D x) (own_D_l2d (own_top_b x)), cmpV_l, (FP.Core.compare_eq_iff _ _).mpr rfl]
  rfl
theorem own_c4 (x : Int64) : FP.d2l (FP.dmul (own_nd x) (4845873199050653696 : UInt64)) = own_top x := FP.Core.d2l_int (own_whole (own_sc_D x))
theorem d1_0 : decode prog_55_method_1_code 0 = .ok (.aload_n 0, 1) := by decide +kernel
theorem d1_1 : decode prog_55_method_1_code 1 = .ok (.invokespecial 1, 3) := by decide +kernel
theorem d1_4 : decode prog_55_method_1_code 4 = .ok (.aload_n 0, 1) := by decide +kernel
theorem d1_5 : decode prog_55_method_1_code 5 = .ok (.lload_n 1, 1) := by decide +kernel
theorem d1_6 : decode prog_55_method_1_code 6 = .ok (.putfield 7, 3) := by decide +kernel
theorem d1_9 : decode prog_55_method_1_code 9 = .ok (.return_, 1) := by decide +kernel
theorem pn_1 : plainName "com/example/ticks_to_order/tickstoorder/simulation/SplitMix64" = true := by first | (simp [plainName, overriddenIn]; done) | decide +kernel
theorem ef_1 (m : MethodId) (x0 : Addr) (x1 : Int64) : entryFrame m #[(.ref x0), (.long x1)] 3 = mkF m 0 #[.val (.ref x0), .val (.long x1), .second] [] := by first | (simp [entryFrame, mkF, argsToLocals, Value.category]; done) | rfl
def Q1 (Z : State) (a1 : Addr) (q2 : Int64) (u__state_a1 : Value) (h0 : Heap) (n0 : Nat) (v : Option Value) (h : Heap) (L : List Loc) : Prop := v = none ∧ Fr n0 L ∧ Keep h0 h [a1] ∧ Exa Z h a1 "com/example/ticks_to_order/tickstoorder/simulation/SplitMix64" ∧ Fld Z h a1 "com/example/ticks_to_order/tickstoorder/simulation/SplitMix64" "_state" "J" (.long q2)
set_option maxRecDepth 65536 in
set_option maxHeartbeats 40000000 in
theorem rm1 (l : Launch) (Z : State) (a0 : Array Value) (hw : ∀ d ∈ tables_1, d.before a0 Z = true) (ws : List Jvm.Cond) (a1 : Addr) (q2 : Int64) (u__state_a1 : Value) (h0 : Heap) (n0 : Nat) (Z0 : n0 ≤ h0.size) (E_a1 : Exa Z h0 a1 "com/example/ticks_to_order/tickstoorder/simulation/SplitMix64") (F__state_a1 : Fld Z h0 a1 "com/example/ticks_to_order/tickstoorder/simulation/SplitMix64" "_state" "J" u__state_a1) (g_a1 : n0 ≤ a1) :
    MetFree l (⟨"com/example/ticks_to_order/tickstoorder/simulation/SplitMix64", "<init>", "(J)V"⟩ : MethodName) (head1 (Jvm.Cond.code (⟨"com/example/ticks_to_order/tickstoorder/simulation/SplitMix64", "<init>", "(J)V"⟩ : MethodName) prog_55_method_1_code 3 none :: ws) ({ frames := 1, cells := 0, slots := 0, locals := 12 } : Room)) (fun a U => a = #[(.ref a1), (.long q2)] ∧ Z.Warmed39 U.vm ∧ U.heap = h0) (fun _ _ _ _ _ => True) (fun _ U o U' => ∃ v L, o = .returned v ∧ Q1 Z a1 q2 u__state_a1 h0 n0 v U'.heap L ∧ FrameEnd U o U' L ({ frames := 1, cells := 0, slots := 0, locals := 12 } : Room).cells ({ frames := 1, cells := 0, slots := 0, locals := 12 } : Room).slots) := by
  refine MetFree.of_bodySF (plainFor_of_name pn_1) hisR ?_
  intro p e s m args below meth c s₁ Bd hml0 hP hK
  obtain ⟨rfl, hZ, hh⟩ := hP
  have hx := Bd.exec
  have hby := Bd.bytes
  have hml : c.maxLocals = 3 := hml0
  have hown : s.vm.findClass "com/example/ticks_to_order/tickstoorder/simulation/SplitMix64" = some m.cls := findClass_of_methodNamed Bd.named
  have hnm := (name_of_methodNamed Bd.named Bd.method).1
  have X0 : Stand p l e ({ frames := 1, cells := 0, slots := 0, locals := 12 } : Room) s m #[(.ref a1), (.long q2)] below meth c s₁ [] 0 0 := Stand.of_body Bd
  have e0 : s₁.heap = h0 := by rw [← hh, Bd.state]; rfl
  have N0 := Fr.nil n0
  have pre0 : ∀ t, Steps p.tables e below (s₁.setTop (mkF m 0 #[.val (.ref a1), .val (.long q2), .second] [])) t → Steps p.tables e below (s₁.setTop (entryFrame m #[(.ref a1), (.long q2)] 3)) t := fun t k => castTop (ef_1 m a1 q2) k
  obtain ⟨T3, X3, e3, st3⟩ := initO X0 hx hZ hown (hw _ (List.mem_of_getElem? (i := 6) rfl)) (hw _ (List.mem_of_getElem? (i := 7) rfl)) (hw _ (List.mem_of_getElem? (i := 8) rfl)) e0 (g := (mkF m 1 #[.val (.ref a1), .val (.long q2), .second] [(.ref a1)])) rfl (by rw [hml]; rfl) rfl (hb hby d1_1) (by decide) (W := 0) (by show 2 * 0 + _ ≤ _; exact Nat.le_of_eq rfl) (by decide)
  obtain ⟨T4, h4, X4, e4, W4, st4⟩ := putF X3 hx hZ hown (host := "") (Or.inl (hw _ (List.mem_of_getElem? (i := 9) rfl))) Via.refl e3 F__state_a1 E_a1 (Or.inl (hw _ (List.mem_of_getElem? (i := 10) rfl))) (hw _ (List.mem_of_getElem? (i := 1) rfl)) (ty := .long) (by decide) rfl rfl (g := (mkF m 6 #[.val (.ref a1), .val (.long q2), .second] [(.long q2), (.ref a1)])) rfl rfl (hb hby d1_6)
  have Fw4 := F__state_a1.same W4
  have K4 : Keep h0 h4 [a1] := (Keep.refl h0 [a1]).wr W4 (Or.inl (List.mem_of_getElem? (i := 0) rfl))
  have N4 := Fr.snoc X4 N0 g_a1
  obtain ⟨fs, hr, hrun, hended, hW, hsame⟩ := X4.leave (v := none) (fun _ => rfl)
  refine ⟨_, _, pre0 _ ?_, hrun, hended, _, _, rfl, ?_, ⟨_, rfl⟩, hW, hsame.mono (by decide) (by decide)⟩
  · show Steps p.tables e below (s₁.setTop (mkF m 0 #[.val (.ref a1), .val (.long q2), .second] [])) _
    refine XS.aloadN X0.here hx rfl (hb hby d1_0) rfl rfl ?_
    show Steps p.tables e below (s₁.setTop (mkF m 1 #[.val (.ref a1), .val (.long q2), .second] [(.ref a1)])) _
    refine st3 _ ?_
    show Steps p.tables e below (T3.setTop (mkF m 4 #[.val (.ref a1), .val (.long q2), .second] [])) _
    refine XS.aloadN X3.here hx rfl (hb hby d1_4) rfl rfl ?_
    show Steps p.tables e below (T3.setTop (mkF m 5 #[.val (.ref a1), .val (.long q2), .second] [(.ref a1)])) _
    refine XS.lloadN X3.here hx rfl (hb hby d1_5) rfl ?_
    show Steps p.tables e below (T3.setTop (mkF m 6 #[.val (.ref a1), .val (.long q2), .second] [(.long q2), (.ref a1)])) _
    refine st4 _ ?_
    show Steps p.tables e below (T4.setTop (mkF m 9 #[.val (.ref a1), .val (.long q2), .second] [])) _
    exact X4.returnOut hx Bd.returns (hb hby d1_9) hr
  · show Q1 Z a1 q2 u__state_a1 h0 n0 _ T4.heap _
    rw [e4]
    exact ⟨rfl, N4, K4, (E_a1.wr W4), Fw4⟩
theorem d3_0 : decode prog_55_method_2_code 0 = .ok (.aload_n 0, 1) := by decide +kernel
theorem d3_1 : decode prog_55_method_2_code 1 = .ok (.dup, 1) := by decide +kernel
theorem d3_2 : decode prog_55_method_2_code 2 = .ok (.getfield 7, 3) := by decide +kernel
theorem d3_5 : decode prog_55_method_2_code 5 = .ok (.ldc2_w 13, 3) := by decide +kernel
theorem d3_8 : decode prog_55_method_2_code 8 = .ok (.ladd, 1) := by decide +kernel
theorem d3_9 : decode prog_55_method_2_code 9 = .ok (.putfield 7, 3) := by decide +kernel
theorem d3_12 : decode prog_55_method_2_code 12 = .ok (.aload_n 0, 1) := by decide +kernel
theorem d3_13 : decode prog_55_method_2_code 13 = .ok (.getfield 7, 3) := by decide +kernel
theorem d3_16 : decode prog_55_method_2_code 16 = .ok (.lstore_n 1, 1) := by decide +kernel
theorem d3_17 : decode prog_55_method_2_code 17 = .ok (.lload_n 1, 1) := by decide +kernel
theorem d3_18 : decode prog_55_method_2_code 18 = .ok (.lload_n 1, 1) := by decide +kernel
theorem d3_19 : decode prog_55_method_2_code 19 = .ok (.bipush 30, 2) := by decide +kernel
theorem d3_21 : decode prog_55_method_2_code 21 = .ok (.lushr, 1) := by decide +kernel
theorem d3_22 : decode prog_55_method_2_code 22 = .ok (.lxor, 1) := by decide +kernel
theorem d3_23 : decode prog_55_method_2_code 23 = .ok (.ldc2_w 15, 3) := by decide +kernel
theorem d3_26 : decode prog_55_method_2_code 26 = .ok (.lmul, 1) := by decide +kernel
theorem d3_27 : decode prog_55_method_2_code 27 = .ok (.lstore_n 1, 1) := by decide +kernel
theorem d3_28 : decode prog_55_method_2_code 28 = .ok (.lload_n 1, 1) := by decide +kernel
theorem d3_29 : decode prog_55_method_2_code 29 = .ok (.lload_n 1, 1) := by decide +kernel
theorem d3_30 : decode prog_55_method_2_code 30 = .ok (.bipush 27, 2) := by decide +kernel
theorem d3_32 : decode prog_55_method_2_code 32 = .ok (.lushr, 1) := by decide +kernel
theorem d3_33 : decode prog_55_method_2_code 33 = .ok (.lxor, 1) := by decide +kernel
theorem d3_34 : decode prog_55_method_2_code 34 = .ok (.ldc2_w 17, 3) := by decide +kernel
theorem d3_37 : decode prog_55_method_2_code 37 = .ok (.lmul, 1) := by decide +kernel
theorem d3_38 : decode prog_55_method_2_code 38 = .ok (.lstore_n 1, 1) := by decide +kernel
theorem d3_39 : decode prog_55_method_2_code 39 = .ok (.lload_n 1, 1) := by decide +kernel
theorem d3_40 : decode prog_55_method_2_code 40 = .ok (.lload_n 1, 1) := by decide +kernel
theorem d3_41 : decode prog_55_method_2_code 41 = .ok (.bipush 31, 2) := by decide +kernel
theorem d3_43 : decode prog_55_method_2_code 43 = .ok (.lushr, 1) := by decide +kernel
theorem d3_44 : decode prog_55_method_2_code 44 = .ok (.lxor, 1) := by decide +kernel
theorem d3_45 : decode prog_55_method_2_code 45 = .ok (.lreturn, 1) := by decide +kernel
theorem pn_3 : plainName "com/example/ticks_to_order/tickstoorder/simulation/SplitMix64" = true := by first | (simp [plainName, overriddenIn]; done) | decide +kernel
theorem ef_3 (m : MethodId) (x0 : Addr) : entryFrame m #[(.ref x0)] 3 = mkF m 0 #[.val (.ref x0), .unset, .unset] [] := by first | (simp [entryFrame, mkF, argsToLocals, Value.category]; done) | rfl
def Q3 (Z : State) (a1 : Addr) (w2 : Int64) (h0 : Heap) (n0 : Nat) (v : Option Value) (h : Heap) (L : List Loc) : Prop := v = some (.long (own_mix (w2 + (-7046029254386353131 : Int64)))) ∧ Fr n0 L ∧ Keep h0 h [a1] ∧ Exa Z h a1 "com/example/ticks_to_order/tickstoorder/simulation/SplitMix64" ∧ Fld Z h a1 "com/example/ticks_to_order/tickstoorder/simulation/SplitMix64" "_state" "J" (.long (w2 + (-7046029254386353131 : Int64)))
set_option maxRecDepth 65536 in
set_option maxHeartbeats 40000000 in
theorem rm3 (l : Launch) (Z : State) (a0 : Array Value) (hw : ∀ d ∈ tables_1, d.before a0 Z = true) (ws : List Jvm.Cond) (a1 : Addr) (w2 : Int64) (h0 : Heap) (n0 : Nat) (Z0 : n0 ≤ h0.size) (F__state_a1 : Fld Z h0 a1 "com/example/ticks_to_order/tickstoorder/simulation/SplitMix64" "_state" "J" (.long w2)) (E_a1 : Exa Z h0 a1 "com/example/ticks_to_order/tickstoorder/simulation/SplitMix64") (g_a1 : n0 ≤ a1) :
    MetFree l (⟨"com/example/ticks_to_order/tickstoorder/simulation/SplitMix64", "nextLong", "()J"⟩ : MethodName) (head1 (Jvm.Cond.code (⟨"com/example/ticks_to_order/tickstoorder/simulation/SplitMix64", "nextLong", "()J"⟩ : MethodName) prog_55_method_2_code 3 (some .long) :: ws) ({ frames := 0, cells := 0, slots := 0, locals := 0 } : Room)) (fun a U => a = #[(.ref a1)] ∧ Z.Warmed39 U.vm ∧ U.heap = h0) (fun _ _ _ _ _ => True) (fun _ U o U' => ∃ v L, o = .returned v ∧ Q3 Z a1 w2 h0 n0 v U'.heap L ∧ FrameEnd U o U' L ({ frames := 0, cells := 0, slots := 0, locals := 0 } : Room).cells ({ frames := 0, cells := 0, slots := 0, locals := 0 } : Room).slots) := by
  refine MetFree.of_bodySF (plainFor_of_name pn_3) hisR ?_
  intro p e s m args below meth c s₁ Bd hml0 hP hK
  obtain ⟨rfl, hZ, hh⟩ := hP
  have hx := Bd.exec
  have hby := Bd.bytes
  have hml : c.maxLocals = 3 := hml0
  have hown : s.vm.findClass "com/example/ticks_to_order/tickstoorder/simulation/SplitMix64" = some m.cls := findClass_of_methodNamed Bd.named
  have hnm := (name_of_methodNamed Bd.named Bd.method).1
  have X0 : Stand p l e ({ frames := 0, cells := 0, slots := 0, locals := 0 } : Room) s m #[(.ref a1)] below meth c s₁ [] 0 0 := Stand.of_body Bd
  have e0 : s₁.heap = h0 := by rw [← hh, Bd.state]; rfl
  have N0 := Fr.nil n0
  have pre0 : ∀ t, Steps p.tables e below (s₁.setTop (mkF m 0 #[.val (.ref a1), .unset, .unset] [])) t → Steps p.tables e below (s₁.setTop (entryFrame m #[(.ref a1)] 3)) t := fun t k => castTop (ef_3 m a1) k
  obtain ⟨T3, X3, e3, st3⟩ := getF X0 hx hZ hown (host := "") (Or.inl (hw _ (List.mem_of_getElem? (i := 9) rfl))) Via.refl e0 F__state_a1 (g := (mkF m 2 #[.val (.ref a1), .unset, .unset] [(.ref a1), (.ref a1)])) rfl rfl (hb hby d3_2)
  obtain ⟨T4, h4, X4, e4, W4, st4⟩ := putF X3 hx hZ hown (host := "") (Or.inl (hw _ (List.mem_of_getElem? (i := 9) rfl))) Via.refl e3 F__state_a1 E_a1 (Or.inl (hw _ (List.mem_of_getElem? (i := 10) rfl))) (hw _ (List.mem_of_getElem? (i := 1) rfl)) (ty := .long) (by decide) rfl rfl (g := (mkF m 9 #[.val (.ref a1), .unset, .unset] [(.long (w2 + (-7046029254386353131 : Int64))), (.ref a1)])) rfl rfl (hb hby d3_9)
  have Fw4 := F__state_a1.same W4
  have K4 : Keep h0 h4 [a1] := (Keep.refl h0 [a1]).wr W4 (Or.inl (List.mem_of_getElem? (i := 0) rfl))
  have N4 := Fr.snoc X4 N0 g_a1
  obtain ⟨T5, X5, e5, st5⟩ := getF X4 hx hZ hown (host := "") (Or.inl (hw _ (List.mem_of_getElem? (i := 9) rfl))) Via.refl e4 Fw4 (g := (mkF m 13 #[.val (.ref a1), .unset, .unset] [(.ref a1)])) rfl rfl (hb hby d3_13)
  obtain ⟨fs, hr, hrun, hended, hW, hsame⟩ := X5.leave (v := some (.long (own_mix (w2 + (-7046029254386353131 : Int64))))) (fun h => by rw [Bd.returns] at h; cases h)
  refine ⟨_, _, pre0 _ ?_, hrun, hended, _, _, rfl, ?_, ⟨_, rfl⟩, hW, hsame.mono (by decide) (by decide)⟩
  · show Steps p.tables e below (s₁.setTop (mkF m 0 #[.val (.ref a1), .unset, .unset] [])) _
    refine XS.aloadN X0.here hx rfl (hb hby d3_0) rfl rfl ?_
    show Steps p.tables e below (s₁.setTop (mkF m 1 #[.val (.ref a1), .unset, .unset] [(.ref a1)])) _
    refine XS.dup X0.here hx rfl (hb hby d3_1) rfl rfl ?_
    show Steps p.tables e below (s₁.setTop (mkF m 2 #[.val (.ref a1), .unset, .unset] [(.ref a1), (.ref a1)])) _
    refine st3 _ ?_
    show Steps p.tables e below (T3.setTop (mkF m 5 #[.val (.ref a1), .unset, .unset] [(.long w2), (.ref a1)])) _
    refine X3.ldc2Long hx hown (mvT hZ (hw _ (List.mem_of_getElem? (i := 16) rfl))) (g := (mkF m 5 #[.val (.ref a1), .unset, .unset] [(.long w2), (.ref a1)])) rfl (hb hby d3_5) _ ?_
    show Steps p.tables e below (T3.setTop (mkF m 8 #[.val (.ref a1), .unset, .unset] [(.long (-7046029254386353131 : Int64)), (.long w2), (.ref a1)])) _
    refine XS.ladd X3.here hx rfl (hb hby d3_8) rfl ?_
    show Steps p.tables e below (T3.setTop (mkF m 9 #[.val (.ref a1), .unset, .unset] [(.long (w2 + (-7046029254386353131 : Int64))), (.ref a1)])) _
    refine st4 _ ?_
    show Steps p.tables e below (T4.setTop (mkF m 12 #[.val (.ref a1), .unset, .unset] [])) _
    refine XS.aloadN X4.here hx rfl (hb hby d3_12) rfl rfl ?_
    show Steps p.tables e below (T4.setTop (mkF m 13 #[.val (.ref a1), .unset, .unset] [(.ref a1)])) _
    refine st5 _ ?_
    show Steps p.tables e below (T5.setTop (mkF m 16 #[.val (.ref a1), .unset, .unset] [(.long (w2 + (-7046029254386353131 : Int64)))])) _
    refine XS.lstoreN X5.here hx rfl (hb hby d3_16) rfl (l' := #[.val (.ref a1), .val (.long (w2 + (-7046029254386353131 : Int64))), .second]) rfl ?_
    show Steps p.tables e below (T5.setTop (mkF m 17 #[.val (.ref a1), .val (.long (w2 + (-7046029254386353131 : Int64))), .second] [])) _
    refine XS.lloadN X5.here hx rfl (hb hby d3_17) rfl ?_
    show Steps p.tables e below (T5.setTop (mkF m 18 #[.val (.ref a1), .val (.long (w2 + (-7046029254386353131 : Int64))), .second] [(.long (w2 + (-7046029254386353131 : Int64)))])) _
    refine XS.lloadN X5.here hx rfl (hb hby d3_18) rfl ?_
    show Steps p.tables e below (T5.setTop (mkF m 19 #[.val (.ref a1), .val (.long (w2 + (-7046029254386353131 : Int64))), .second] [(.long (w2 + (-7046029254386353131 : Int64))), (.long (w2 + (-7046029254386353131 : Int64)))])) _
    refine XS.bipush X5.here hx rfl (hb hby d3_19) ?_
    show Steps p.tables e below (T5.setTop (mkF m 21 #[.val (.ref a1), .val (.long (w2 + (-7046029254386353131 : Int64))), .second] [(.int (30 : Int32)), (.long (w2 + (-7046029254386353131 : Int64))), (.long (w2 + (-7046029254386353131 : Int64)))])) _
    refine XS.lushr X5.here hx rfl (hb hby d3_21) rfl ?_
    show Steps p.tables e below (T5.setTop (mkF m 22 #[.val (.ref a1), .val (.long (w2 + (-7046029254386353131 : Int64))), .second] [(.long (((w2 + (-7046029254386353131 : Int64)).toUInt64 >>> ((30 : Int32) &&& 0x3f).toInt64.toUInt64).toInt64)), (.long (w2 + (-7046029254386353131 : Int64)))])) _
    refine XS.lxor X5.here hx rfl (hb hby d3_22) rfl ?_
    show Steps p.tables e below (T5.setTop (mkF m 23 #[.val (.ref a1), .val (.long (w2 + (-7046029254386353131 : Int64))), .second] [(.long ((w2 + (-7046029254386353131 : Int64)) ^^^ (((w2 + (-7046029254386353131 : Int64)).toUInt64 >>> ((30 : Int32) &&& 0x3f).toInt64.toUInt64).toInt64)))])) _
    refine X5.ldc2Long hx hown (mvT hZ (hw _ (List.mem_of_getElem? (i := 17) rfl))) (g := (mkF m 23 #[.val (.ref a1), .val (.long (w2 + (-7046029254386353131 : Int64))), .second] [(.long ((w2 + (-7046029254386353131 : Int64)) ^^^ (((w2 + (-7046029254386353131 : Int64)).toUInt64 >>> ((30 : Int32) &&& 0x3f).toInt64.toUInt64).toInt64)))])) rfl (hb hby d3_23) _ ?_
    show Steps p.tables e below (T5.setTop (mkF m 26 #[.val (.ref a1), .val (.long (w2 + (-7046029254386353131 : Int64))), .second] [(.long (-4658895280553007687 : Int64)), (.long ((w2 + (-7046029254386353131 : Int64)) ^^^ (((w2 + (-7046029254386353131 : Int64)).toUInt64 >>> ((30 : Int32) &&& 0x3f).toInt64.toUInt64).toInt64)))])) _
    refine XS.lmul X5.here hx rfl (hb hby d3_26) rfl ?_
    show Steps p.tables e below (T5.setTop (mkF m 27 #[.val (.ref a1), .val (.long (w2 + (-7046029254386353131 : Int64))), .second] [(.long (own_mA (w2 + (-7046029254386353131 : Int64))))])) _
    refine XS.lstoreN X5.here hx rfl (hb hby d3_27) rfl (l' := #[.val (.ref a1), .val (.long (own_mA (w2 + (-7046029254386353131 : Int64)))), .second]) rfl ?_
    show Steps p.tables e below (T5.setTop (mkF m 28 #[.val (.ref a1), .val (.long (own_mA (w2 + (-7046029254386353131 : Int64)))), .second] [])) _
    refine XS.lloadN X5.here hx rfl (hb hby d3_28) rfl ?_
    show Steps p.tables e below (T5.setTop (mkF m 29 #[.val (.ref a1), .val (.long (own_mA (w2 + (-7046029254386353131 : Int64)))), .second] [(.long (own_mA (w2 + (-7046029254386353131 : Int64))))])) _
    refine XS.lloadN X5.here hx rfl (hb hby d3_29) rfl ?_
    show Steps p.tables e below (T5.setTop (mkF m 30 #[.val (.ref a1), .val (.long (own_mA (w2 + (-7046029254386353131 : Int64)))), .second] [(.long (own_mA (w2 + (-7046029254386353131 : Int64)))), (.long (own_mA (w2 + (-7046029254386353131 : Int64))))])) _
    refine XS.bipush X5.here hx rfl (hb hby d3_30) ?_
    show Steps p.tables e below (T5.setTop (mkF m 32 #[.val (.ref a1), .val (.long (own_mA (w2 + (-7046029254386353131 : Int64)))), .second] [(.int (27 : Int32)), (.long (own_mA (w2 + (-7046029254386353131 : Int64)))), (.long (own_mA (w2 + (-7046029254386353131 : Int64))))])) _
    refine XS.lushr X5.here hx rfl (hb hby d3_32) rfl ?_
    show Steps p.tables e below (T5.setTop (mkF m 33 #[.val (.ref a1), .val (.long (own_mA (w2 + (-7046029254386353131 : Int64)))), .second] [(.long (((own_mA (w2 + (-7046029254386353131 : Int64))).toUInt64 >>> ((27 : Int32) &&& 0x3f).toInt64.toUInt64).toInt64)), (.long (own_mA (w2 + (-7046029254386353131 : Int64))))])) _
    refine XS.lxor X5.here hx rfl (hb hby d3_33) rfl ?_
    show Steps p.tables e below (T5.setTop (mkF m 34 #[.val (.ref a1), .val (.long (own_mA (w2 + (-7046029254386353131 : Int64)))), .second] [(.long ((own_mA (w2 + (-7046029254386353131 : Int64))) ^^^ (((own_mA (w2 + (-7046029254386353131 : Int64))).toUInt64 >>> ((27 : Int32) &&& 0x3f).toInt64.toUInt64).toInt64)))])) _
    refine X5.ldc2Long hx hown (mvT hZ (hw _ (List.mem_of_getElem? (i := 18) rfl))) (g := (mkF m 34 #[.val (.ref a1), .val (.long (own_mA (w2 + (-7046029254386353131 : Int64)))), .second] [(.long ((own_mA (w2 + (-7046029254386353131 : Int64))) ^^^ (((own_mA (w2 + (-7046029254386353131 : Int64))).toUInt64 >>> ((27 : Int32) &&& 0x3f).toInt64.toUInt64).toInt64)))])) rfl (hb hby d3_34) _ ?_
    show Steps p.tables e below (T5.setTop (mkF m 37 #[.val (.ref a1), .val (.long (own_mA (w2 + (-7046029254386353131 : Int64)))), .second] [(.long (-7723592293110705685 : Int64)), (.long ((own_mA (w2 + (-7046029254386353131 : Int64))) ^^^ (((own_mA (w2 + (-7046029254386353131 : Int64))).toUInt64 >>> ((27 : Int32) &&& 0x3f).toInt64.toUInt64).toInt64)))])) _
    refine XS.lmul X5.here hx rfl (hb hby d3_37) rfl ?_
    show Steps p.tables e below (T5.setTop (mkF m 38 #[.val (.ref a1), .val (.long (own_mA (w2 + (-7046029254386353131 : Int64)))), .second] [(.long (own_mB (own_mA (w2 + (-7046029254386353131 : Int64)))))])) _
    refine XS.lstoreN X5.here hx rfl (hb hby d3_38) rfl (l' := #[.val (.ref a1), .val (.long (own_mB (own_mA (w2 + (-7046029254386353131 : Int64))))), .second]) rfl ?_
    show Steps p.tables e below (T5.setTop (mkF m 39 #[.val (.ref a1), .val (.long (own_mB (own_mA (w2 + (-7046029254386353131 : Int64))))), .second] [])) _
    refine XS.lloadN X5.here hx rfl (hb hby d3_39) rfl ?_
    show Steps p.tables e below (T5.setTop (mkF m 40 #[.val (.ref a1), .val (.long (own_mB (own_mA (w2 + (-7046029254386353131 : Int64))))), .second] [(.long (own_mB (own_mA (w2 + (-7046029254386353131 : Int64)))))])) _
    refine XS.lloadN X5.here hx rfl (hb hby d3_40) rfl ?_
    show Steps p.tables e below (T5.setTop (mkF m 41 #[.val (.ref a1), .val (.long (own_mB (own_mA (w2 + (-7046029254386353131 : Int64))))), .second] [(.long (own_mB (own_mA (w2 + (-7046029254386353131 : Int64))))), (.long (own_mB (own_mA (w2 + (-7046029254386353131 : Int64)))))])) _
    refine XS.bipush X5.here hx rfl (hb hby d3_41) ?_
    show Steps p.tables e below (T5.setTop (mkF m 43 #[.val (.ref a1), .val (.long (own_mB (own_mA (w2 + (-7046029254386353131 : Int64))))), .second] [(.int (31 : Int32)), (.long (own_mB (own_mA (w2 + (-7046029254386353131 : Int64))))), (.long (own_mB (own_mA (w2 + (-7046029254386353131 : Int64)))))])) _
    refine XS.lushr X5.here hx rfl (hb hby d3_43) rfl ?_
    show Steps p.tables e below (T5.setTop (mkF m 44 #[.val (.ref a1), .val (.long (own_mB (own_mA (w2 + (-7046029254386353131 : Int64))))), .second] [(.long (((own_mB (own_mA (w2 + (-7046029254386353131 : Int64)))).toUInt64 >>> ((31 : Int32) &&& 0x3f).toInt64.toUInt64).toInt64)), (.long (own_mB (own_mA (w2 + (-7046029254386353131 : Int64)))))])) _
    refine XS.lxor X5.here hx rfl (hb hby d3_44) rfl ?_
    show Steps p.tables e below (T5.setTop (mkF m 45 #[.val (.ref a1), .val (.long (own_mB (own_mA (w2 + (-7046029254386353131 : Int64))))), .second] [(.long (own_mix (w2 + (-7046029254386353131 : Int64))))])) _
    jvm_step X5.here [X5.here.top, hx, (hb hby d3_45), X5.method', Bd.returns, narrow]
    first | (intro acts; rw [hr _ acts rfl rfl rfl]) | rw [hr _ _ rfl rfl rfl]
    exact Steps.refl _
  · show Q3 Z a1 w2 h0 n0 _ T5.heap _
    rw [e5]
    exact ⟨rfl, N4, K4, (E_a1.wr W4), Fw4⟩
theorem d4_0 : decode prog_55_method_3_code 0 = .ok (.aload_n 0, 1) := by decide +kernel
theorem d4_1 : decode prog_55_method_3_code 1 = .ok (.invokevirtual 19, 3) := by decide +kernel
theorem d4_4 : decode prog_55_method_3_code 4 = .ok (.bipush 11, 2) := by decide +kernel
theorem d4_6 : decode prog_55_method_3_code 6 = .ok (.lushr, 1) := by decide +kernel
theorem d4_7 : decode prog_55_method_3_code 7 = .ok (.l2d, 1) := by decide +kernel
theorem d4_8 : decode prog_55_method_3_code 8 = .ok (.ldc2_w 23, 3) := by decide +kernel
theorem d4_11 : decode prog_55_method_3_code 11 = .ok (.dmul, 1) := by decide +kernel
theorem d4_12 : decode prog_55_method_3_code 12 = .ok (.dreturn, 1) := by decide +kernel
theorem pn_4 : plainName "com/example/ticks_to_order/tickstoorder/simulation/SplitMix64" = true := by first | (simp [plainName, overriddenIn]; done) | decide +kernel
theorem pd_4_2 : parseMethodDescriptor "()J" = some ⟨[], some .long⟩ := by decide +kernel
theorem ef_4 (m : MethodId) (x0 : Addr) : entryFrame m #[(.ref x0)] 1 = mkF m 0 #[.val (.ref x0)] [] := by first | (simp [entryFrame, mkF, argsToLocals, Value.category]; done) | rfl
def Q4 (Z : State) (a1 : Addr) (w2 : Int64) (h0 : Heap) (n0 : Nat) (v : Option Value) (h : Heap) (L : List Loc) : Prop := v = some (.double (own_nd (own_mix (w2 + (-7046029254386353131 : Int64))))) ∧ Fr n0 L ∧ Keep h0 h [a1] ∧ Exa Z h a1 "com/example/ticks_to_order/tickstoorder/simulation/SplitMix64" ∧ Fld Z h a1 "com/example/ticks_to_order/tickstoorder/simulation/SplitMix64" "_state" "J" (.long (w2 + (-7046029254386353131 : Int64)))
set_option maxRecDepth 65536 in
set_option maxHeartbeats 40000000 in
theorem rm4 (l : Launch) (Z : State) (a0 : Array Value) (hw : ∀ d ∈ tables_1, d.before a0 Z = true) (ws : List Jvm.Cond) (a1 : Addr) (w2 : Int64) (h0 : Heap) (n0 : Nat) (Z0 : n0 ≤ h0.size) (F_a1 : Fld Z h0 a1 "com/example/ticks_to_order/tickstoorder/simulation/SplitMix64" "_state" "J" (.long w2)) (E_a1 : Exa Z h0 a1 "com/example/ticks_to_order/tickstoorder/simulation/SplitMix64") (g_a1 : n0 ≤ a1) :
    MetFree l (⟨"com/example/ticks_to_order/tickstoorder/simulation/SplitMix64", "nextDouble", "()D"⟩ : MethodName) (head1 (Jvm.Cond.code (⟨"com/example/ticks_to_order/tickstoorder/simulation/SplitMix64", "nextDouble", "()D"⟩ : MethodName) prog_55_method_3_code 1 (some .double) :: ws) ({ frames := 1, cells := 0, slots := 0, locals := 14 } : Room)) (fun a U => a = #[(.ref a1)] ∧ Z.Warmed39 U.vm ∧ U.heap = h0) (fun _ _ _ _ _ => True) (fun _ U o U' => ∃ v L, o = .returned v ∧ Q4 Z a1 w2 h0 n0 v U'.heap L ∧ FrameEnd U o U' L ({ frames := 1, cells := 0, slots := 0, locals := 14 } : Room).cells ({ frames := 1, cells := 0, slots := 0, locals := 14 } : Room).slots) := by
  refine MetFree.of_bodySF (plainFor_of_name pn_4) hisR ?_
  intro p e s m args below meth c s₁ Bd hml0 hP hK
  obtain ⟨rfl, hZ, hh⟩ := hP
  have hx := Bd.exec
  have hby := Bd.bytes
  have hml : c.maxLocals = 1 := hml0
  have hown : s.vm.findClass "com/example/ticks_to_order/tickstoorder/simulation/SplitMix64" = some m.cls := findClass_of_methodNamed Bd.named
  have hnm := (name_of_methodNamed Bd.named Bd.method).1
  have X0 : Stand p l e ({ frames := 1, cells := 0, slots := 0, locals := 14 } : Room) s m #[(.ref a1)] below meth c s₁ [] 0 0 := Stand.of_body Bd
  have e0 : s₁.heap = h0 := by rw [← hh, Bd.state]; rfl
  have N0 := Fr.nil n0
  have pre0 : ∀ t, Steps p.tables e below (s₁.setTop (mkF m 0 #[.val (.ref a1)] [])) t → Steps p.tables e below (s₁.setTop (entryFrame m #[(.ref a1)] 1)) t := fun t k => castTop (ef_4 m a1) k
  obtain ⟨cq2, kq2, q2a, q2b, q2c⟩ := isOf hZ e0 E_a1
  obtain ⟨_, _, ⟨T2, L2, k2, n2⟩, -, X2, ⟨Lc2, hQ2, l2, y2, z2⟩, st2⟩ := X0.virtualBack hx (y := (⟨"com/example/ticks_to_order/tickstoorder/simulation/SplitMix64", "nextLong", "()J"⟩ : MethodName)) (z := (⟨"com/example/ticks_to_order/tickstoorder/simulation/SplitMix64", "nextLong", "()J"⟩ : MethodName)) hown (mvT hZ (hw _ (List.mem_of_getElem? (i := 24) rfl))) (mvT hZ (hw _ (List.mem_of_getElem? (i := 12) rfl))) (notFace_of_selects (args := #[]) (mvT hZ (hw _ (List.mem_of_getElem? (i := 14) rfl)))) (mvT hZ (hw _ (List.mem_of_getElem? (i := 14) rfl))) (mvT hZ (hw _ (List.mem_of_getElem? (i := 13) rfl))) (by decide) (backOf (W := 0) (rm3 l Z a0 hw [] a1 w2 h0 n0 Z0 F_a1 E_a1 g_a1) hZ (hw _ (List.mem_of_getElem? (i := 15) rfl)) (hw _ (List.mem_of_getElem? (i := 2) rfl)) (by decide) (by decide)) q2a q2c (g := (mkF m 1 #[.val (.ref a1)] [(.ref a1)])) rfl (by rw [hml]; rfl) (Steps.refl _) (argsL := []) (rest := []) (lenOf pd_4_2 rfl) rfl (by show 2 * 0 + _ ≤ _; exact Nat.le_of_eq rfl) (hb hby d4_1) (fun _ _ => ⟨rfl, e0, (by decide : 0 + 0 ≤ _), (by decide : 0 + 0 ≤ _)⟩)
  dsimp only [Pt.U, Pt.locs, Pt.cells, Pt.slots] at X2 l2 y2 z2 st2 hQ2
  subst l2 y2 z2
  obtain ⟨rfl, N2q, K2, E2, F2⟩ := hQ2
  have N2 := Fr.app N0 N2q
  obtain ⟨fs, hr, hrun, hended, hW, hsame⟩ := X2.leave (v := some (.double (own_nd (own_mix (w2 + (-7046029254386353131 : Int64)))))) (fun h => by rw [Bd.returns] at h; cases h)
  refine ⟨_, _, pre0 _ ?_, hrun, hended, _, _, rfl, ?_, ⟨_, rfl⟩, hW, hsame.mono (by decide) (by decide)⟩
  · show Steps p.tables e below (s₁.setTop (mkF m 0 #[.val (.ref a1)] [])) _
    refine XS.aloadN X0.here hx rfl (hb hby d4_0) rfl rfl ?_
    show Steps p.tables e below (s₁.setTop (mkF m 1 #[.val (.ref a1)] [(.ref a1)])) _
    refine st2.trans ?_
    show Steps p.tables e below (T2.setTop (mkF m 4 #[.val (.ref a1)] [(.long (own_mix (w2 + (-7046029254386353131 : Int64))))])) _
    refine XS.bipush X2.here hx rfl (hb hby d4_4) ?_
    show Steps p.tables e below (T2.setTop (mkF m 6 #[.val (.ref a1)] [(.int (11 : Int32)), (.long (own_mix (w2 + (-7046029254386353131 : Int64))))])) _
    refine XS.lushr X2.here hx rfl (hb hby d4_6) rfl ?_
    show Steps p.tables e below (T2.setTop (mkF m 7 #[.val (.ref a1)] [(.long (own_top (own_mix (w2 + (-7046029254386353131 : Int64)))))])) _
    refine XS.l2dS X2.here hx rfl (hb hby d4_7) rfl rfl ?_
    show Steps p.tables e below (T2.setTop (mkF m 8 #[.val (.ref a1)] [(.double (FP.l2d (own_top (own_mix (w2 + (-7046029254386353131 : Int64))))))])) _
    refine X2.ldc2DoubleC hx hown (mvT hZ (hw _ (List.mem_of_getElem? (i := 25) rfl))) (g := (mkF m 8 #[.val (.ref a1)] [(.double (FP.l2d (own_top (own_mix (w2 + (-7046029254386353131 : Int64))))))])) rfl (hb hby d4_8) _ ?_
    show Steps p.tables e below (T2.setTop (mkF m 11 #[.val (.ref a1)] [(.double (4368491638549381120 : UInt64)), (.double (FP.l2d (own_top (own_mix (w2 + (-7046029254386353131 : Int64))))))])) _
    refine XS.dmulS X2.here hx rfl (hb hby d4_11) rfl (own_D_nn (own_nd_D (own_mix (w2 + (-7046029254386353131 : Int64))))) rfl ?_
    show Steps p.tables e below (T2.setTop (mkF m 12 #[.val (.ref a1)] [(.double (own_nd (own_mix (w2 + (-7046029254386353131 : Int64)))))])) _
    jvm_step X2.here [X2.here.top, hx, (hb hby d4_12), X2.method', Bd.returns, narrow]
    first | (intro acts; rw [hr _ acts rfl rfl rfl]) | rw [hr _ _ rfl rfl rfl]
    exact Steps.refl _
  · show Q4 Z a1 w2 h0 n0 _ T2.heap _
    exact ⟨rfl, N2, K2, E2, F2⟩
theorem pn_0 : plainName "com/example/ticks_to_order/tickstoorder/simulation/SplitMix64NextDoublePinLaw" = true := by first | (simp [plainName, overriddenIn]; done) | decide +kernel
theorem pd_0_0 : parseMethodDescriptor "(J)V" = some ⟨[.long], none⟩ := by decide +kernel
theorem pd_0_2 : parseMethodDescriptor "()J" = some ⟨[], some .long⟩ := by decide +kernel
theorem pd_0_3 : parseMethodDescriptor "()D" = some ⟨[], some .double⟩ := by decide +kernel
theorem ef_0 (m : MethodId) (x0 : Int64) : entryFrame m #[(.long x0)] maxLocals = mkF m 0 #[.val (.long x0), .second, .unset, .unset, .unset, .unset, .unset, .unset, .unset, .unset, .unset, .unset, .unset, .unset, .unset] [] := by first | (simp [entryFrame, mkF, argsToLocals, Value.category, maxLocals]; done) | rfl
def Q0 (Z : State) (q1 : Int64) (h0 : Heap) (n0 : Nat) (v : Option Value) (h : Heap) (L : List Loc) : Prop := v = some (.int (1 : Int32)) ∧ Fr n0 L
set_option maxRecDepth 65536 in
set_option maxHeartbeats 40000000 in
theorem rm0 (l : Launch) (Z : State) (a0 : Array Value) (hw : ∀ d ∈ tables_1, d.before a0 Z = true) (ws : List Jvm.Cond) (q1 : Int64) (h0 : Heap) (n0 : Nat) (Z0 : n0 ≤ h0.size) (hc112 : ¬ ((1 : Int32) = (0 : Int32))) (hc117 : ¬ ((1 : Int32) = (0 : Int32))) (hc122 : ¬ ((1 : Int32) = (0 : Int32))) :
    MetFree l x (head1 (Jvm.Cond.code x code maxLocals ret :: ws) room_1) (fun a U => a = #[(.long q1)] ∧ Z.Warmed39 U.vm ∧ U.heap = h0) (fun _ _ _ _ _ => True) (fun _ U o U' => ∃ v L, o = .returned v ∧ Q0 Z q1 h0 n0 v U'.heap L ∧ FrameEnd U o U' L room_1.cells room_1.slots) := by
  refine MetFree.of_bodySF (plainFor_of_name pn_0) hisR ?_
  intro p e s m args below meth c s₁ Bd hml0 hP hK
  obtain ⟨rfl, hZ, hh⟩ := hP
  have hx := Bd.exec
  have hby := Bd.bytes
  have hml : c.maxLocals = 15 := hml0
  have hown : s.vm.findClass "com/example/ticks_to_order/tickstoorder/simulation/SplitMix64NextDoublePinLaw" = some m.cls := findClass_of_methodNamed Bd.named
  have hnm := (name_of_methodNamed Bd.named Bd.method).1
  have X0 : Stand p l e room_1 s m #[(.long q1)] below meth c s₁ [] 0 0 := Stand.of_body Bd
  have e0 : s₁.heap = h0 := by rw [← hh, Bd.state]; rfl
  have N0 := Fr.nil n0
  have pre0 : ∀ t, Steps p.tables e below (s₁.setTop (mkF m 0 #[.val (.long q1), .second, .unset, .unset, .unset, .unset, .unset, .unset, .unset, .unset, .unset, .unset, .unset, .unset, .unset] [])) t → Steps p.tables e below (s₁.setTop (entryFrame m #[(.long q1)] maxLocals)) t := fun t k => castTop (ef_0 m q1) k
  obtain ⟨T2, h2, X2, e2, E2, A2, D2, -, st2⟩ := newO X0 hx hZ hown (hw _ (List.mem_of_getElem? (i := 0) rfl)) (hw _ (List.mem_of_getElem? (i := 1) rfl)) (hw _ (List.mem_of_getElem? (i := 2) rfl)) e0 (g := (mkF m 0 #[.val (.long q1), .second, .unset, .unset, .unset, .unset, .unset, .unset, .unset, .unset, .unset, .unset, .unset, .unset, .unset] [])) rfl (hb hby at_0) (by decide) (by decide)
  obtain ⟨b2, g2⟩ : ∃ z, z = h0.size := ⟨_, rfl⟩
  rw [← g2] at A2 D2 st2
  have F__state_b2 : Fld Z h2 b2 "com/example/ticks_to_order/tickstoorder/simulation/SplitMix64" "_state" "J" (.long (0 : Int64)) := D2 (Or.inl (hw _ (List.mem_of_getElem? (i := 10) rfl))) (ty := .long) (by decide)
  have E_b2 := A2
  have g_b2 : n0 ≤ b2 := Nat.le_trans Z0 (Nat.le_of_eq g2.symm)
  have sz_b2 : h0.size ≤ b2 := (Nat.le_trans (Keep.refl h0 []).1 (Nat.le_of_eq g2.symm))
  have K2 : Keep h0 h2 [] := (Keep.refl h0 []).ext E2
  obtain ⟨_, _, ⟨T3, L3, k3, n3⟩, -, X3, ⟨Lc3, hQ3, l3, y3, z3⟩, st3⟩ := X2.specialBack hx (y := (⟨"com/example/ticks_to_order/tickstoorder/simulation/SplitMix64", "<init>", "(J)V"⟩ : MethodName)) rfl hown (mvT hZ (hw _ (List.mem_of_getElem? (i := 3) rfl))) (mvT hZ (hw _ (List.mem_of_getElem? (i := 4) rfl))) (mvT hZ (hw _ (List.mem_of_getElem? (i := 5) rfl))) (by decide) (backOf (W := 1) (rm1 l Z a0 hw [] b2 q1 (.long (0 : Int64)) h2 n0 (Nat.le_trans Z0 E2.1) E_b2 F__state_b2 g_b2) hZ (hw _ (List.mem_of_getElem? (i := 5) rfl)) (hw _ (List.mem_of_getElem? (i := 2) rfl)) (by decide) (by decide)) (g := (mkF m 5 #[.val (.long q1), .second, .unset, .unset, .unset, .unset, .unset, .unset, .unset, .unset, .unset, .unset, .unset, .unset, .unset] [(.long q1), (.ref b2), (.ref b2)])) rfl (by rw [hml]; rfl) (Steps.refl _) (a := b2) (argsL := [(.long q1)]) (rest := [(.ref b2)]) (lenOf pd_0_0 rfl) rfl (by show 2 * 0 + _ ≤ _; exact Nat.le_of_eq rfl) (hb hby at_5) (fun _ _ => ⟨rfl, e2, (by decide : 1 + 0 ≤ _), (by decide : 1 + 0 ≤ _)⟩)
  dsimp only [Pt.U, Pt.locs, Pt.cells, Pt.slots] at X3 l3 y3 z3 st3 hQ3
  subst l3 y3 z3
  obtain ⟨rfl, N3q, K3, E3, F3⟩ := hQ3
  have N3 := Fr.app N0 N3q
  obtain ⟨T4, h4, X4, e4, E4, A4, D4, -, st4⟩ := newO X3 hx hZ hown (hw _ (List.mem_of_getElem? (i := 0) rfl)) (hw _ (List.mem_of_getElem? (i := 1) rfl)) (hw _ (List.mem_of_getElem? (i := 2) rfl)) rfl (g := (mkF m 9 #[.val (.long q1), .second, .val (.ref b2), .unset, .unset, .unset, .unset, .unset, .unset, .unset, .unset, .unset, .unset, .unset, .unset] [])) rfl (hb hby at_9) (by decide) (by decide)
  obtain ⟨b4, g4⟩ : ∃ z, z = T3.heap.size := ⟨_, rfl⟩
  rw [← g4] at A4 D4 st4
  have F__state_b4 : Fld Z h4 b4 "com/example/ticks_to_order/tickstoorder/simulation/SplitMix64" "_state" "J" (.long (0 : Int64)) := D4 (Or.inl (hw _ (List.mem_of_getElem? (i := 10) rfl))) (ty := .long) (by decide)
  have E_b4 := A4
  have g_b4 : n0 ≤ b4 := Nat.le_trans (Nat.le_trans (Nat.le_trans Z0 E2.1) K3.1) (Nat.le_of_eq g4.symm)
  have sz_b4 : h0.size ≤ b4 := (Nat.le_trans (K2.trans K3 (fun x hx => Or.inr (by cases List.mem_singleton.mp hx; exact sz_b2))).1 (Nat.le_of_eq g4.symm))
  have K4 : Keep h0 h4 [] := (K2.trans K3 (fun x hx => Or.inr (by cases List.mem_singleton.mp hx; exact sz_b2))).ext E4
  have Z4 : n0 ≤ h4.size := Nat.le_trans (Nat.le_trans (Nat.le_trans Z0 E2.1) K3.1) E4.1
  have hne : b2 ≠ b4 := Nat.ne_of_lt (Nat.lt_of_lt_of_le F3.lt (Nat.le_of_eq g4.symm))
  have hm1 : b2 ∉ [b4] := fun q => hne (List.mem_singleton.mp q)
  have hm2 : b4 ∉ [b2] := fun q => hne (List.mem_singleton.mp q).symm
  obtain ⟨_, _, ⟨T5, L5, k5, n5⟩, -, X5, ⟨Lc5, hQ5, l5, y5, z5⟩, st5⟩ := X4.specialBack hx (y := (⟨"com/example/ticks_to_order/tickstoorder/simulation/SplitMix64", "<init>", "(J)V"⟩ : MethodName)) rfl hown (mvT hZ (hw _ (List.mem_of_getElem? (i := 3) rfl))) (mvT hZ (hw _ (List.mem_of_getElem? (i := 4) rfl))) (mvT hZ (hw _ (List.mem_of_getElem? (i := 5) rfl))) (by decide) (backOf (W := 1) (rm1 l Z a0 hw [] b4 q1 (.long (0 : Int64)) h4 n0 Z4 E_b4 F__state_b4 g_b4) hZ (hw _ (List.mem_of_getElem? (i := 5) rfl)) (hw _ (List.mem_of_getElem? (i := 2) rfl)) (by decide) (by decide)) (g := (mkF m 14 #[.val (.long q1), .second, .val (.ref b2), .unset, .unset, .unset, .unset, .unset, .unset, .unset, .unset, .unset, .unset, .unset, .unset] [(.long q1), (.ref b4), (.ref b4)])) rfl (by rw [hml]; rfl) (Steps.refl _) (a := b4) (argsL := [(.long q1)]) (rest := [(.ref b4)]) (lenOf pd_0_0 rfl) rfl (by show 2 * 0 + _ ≤ _; exact Nat.le_of_eq rfl) (hb hby at_14) (fun _ _ => ⟨rfl, e4, (by decide : 2 + 0 ≤ _), (by decide : 2 + 0 ≤ _)⟩)
  dsimp only [Pt.U, Pt.locs, Pt.cells, Pt.slots] at X5 l5 y5 z5 st5 hQ5
  subst l5 y5 z5
  obtain ⟨rfl, N5q, K5, E5, F5⟩ := hQ5
  have N5 := Fr.app N3 N5q
  have G5 := (F3.ext E4).keep K5 hm1
  have H5 := (E3.ext E4).keep K5
  have Z5 := Nat.le_trans Z4 K5.1
  obtain ⟨cq6, kq6, q6a, q6b, q6c⟩ := isOf hZ rfl (E_b4.keep K5)
  obtain ⟨_, _, ⟨T6, L6, k6, n6⟩, -, X6, ⟨Lc6, hQ6, l6, y6, z6⟩, st6⟩ := X5.virtualBack hx (y := (⟨"com/example/ticks_to_order/tickstoorder/simulation/SplitMix64", "nextLong", "()J"⟩ : MethodName)) (z := (⟨"com/example/ticks_to_order/tickstoorder/simulation/SplitMix64", "nextLong", "()J"⟩ : MethodName)) hown (mvT hZ (hw _ (List.mem_of_getElem? (i := 11) rfl))) (mvT hZ (hw _ (List.mem_of_getElem? (i := 12) rfl))) (notFace_of_selects (args := #[]) (mvT hZ (hw _ (List.mem_of_getElem? (i := 14) rfl)))) (mvT hZ (hw _ (List.mem_of_getElem? (i := 14) rfl))) (mvT hZ (hw _ (List.mem_of_getElem? (i := 13) rfl))) (by decide) (backOf (W := 0) (rm3 l Z a0 hw [] b4 q1 T5.heap n0 Z5 F5 E5 g_b4) hZ (hw _ (List.mem_of_getElem? (i := 15) rfl)) (hw _ (List.mem_of_getElem? (i := 2) rfl)) (by decide) (by decide)) q6a q6c (g := (mkF m 19 #[.val (.long q1), .second, .val (.ref b2), .val (.ref b4), .unset, .unset, .unset, .unset, .unset, .unset, .unset, .unset, .unset, .unset, .unset] [(.ref b4)])) rfl (by rw [hml]; rfl) (Steps.refl _) (argsL := []) (rest := []) (lenOf pd_0_2 rfl) rfl (by show 2 * 0 + _ ≤ _; exact Nat.le_of_eq rfl) (hb hby at_19) (fun _ _ => ⟨rfl, rfl, (by decide : 2 + 0 ≤ _), (by decide : 2 + 0 ≤ _)⟩)
  dsimp only [Pt.U, Pt.locs, Pt.cells, Pt.slots] at X6 l6 y6 z6 st6 hQ6
  subst l6 y6 z6
  obtain ⟨rfl, N6q, K6, E6, F6⟩ := hQ6
  have N6 := Fr.app N5 N6q
  have G6 := G5.keep K6 hm1
  have H6 := H5.keep K6
  have Z6 := Nat.le_trans Z5 K6.1
  obtain ⟨cq7, kq7, q7a, q7b, q7c⟩ := isOf hZ rfl ((((E_b2.keep K3).ext E4).keep K5).keep K6)
  obtain ⟨_, _, ⟨T7, L7, k7, n7⟩, -, X7, ⟨Lc7, hQ7, l7, y7, z7⟩, st7⟩ := X6.virtualBack hx (y := (⟨"com/example/ticks_to_order/tickstoorder/simulation/SplitMix64", "nextDouble", "()D"⟩ : MethodName)) (z := (⟨"com/example/ticks_to_order/tickstoorder/simulation/SplitMix64", "nextDouble", "()D"⟩ : MethodName)) hown (mvT hZ (hw _ (List.mem_of_getElem? (i := 19) rfl))) (mvT hZ (hw _ (List.mem_of_getElem? (i := 20) rfl))) (notFace_of_selects (args := #[]) (mvT hZ (hw _ (List.mem_of_getElem? (i := 22) rfl)))) (mvT hZ (hw _ (List.mem_of_getElem? (i := 22) rfl))) (mvT hZ (hw _ (List.mem_of_getElem? (i := 21) rfl))) (by decide) (backOf (W := 0) (rm4 l Z a0 hw [] b2 q1 T6.heap n0 Z6 G6 H6 g_b2) hZ (hw _ (List.mem_of_getElem? (i := 23) rfl)) (hw _ (List.mem_of_getElem? (i := 2) rfl)) (by decide) (by decide)) q7a q7c (g := (mkF m 25 #[.val (.long q1), .second, .val (.ref b2), .val (.ref b4), .val (.long (own_mix (q1 + (-7046029254386353131 : Int64)))), .second, .unset, .unset, .unset, .unset, .unset, .unset, .unset, .unset, .unset] [(.ref b2)])) rfl (by rw [hml]; rfl) (Steps.refl _) (argsL := []) (rest := []) (lenOf pd_0_3 rfl) rfl (by show 2 * 0 + _ ≤ _; exact Nat.le_of_eq rfl) (hb hby at_25) (fun _ _ => ⟨rfl, rfl, (by decide : 2 + 0 ≤ _), (by decide : 2 + 0 ≤ _)⟩)
  dsimp only [Pt.U, Pt.locs, Pt.cells, Pt.slots] at X7 l7 y7 z7 st7 hQ7
  subst l7 y7 z7
  obtain ⟨rfl, N7q, K7, E7, G7⟩ := hQ7
  have N7 := Fr.app N6 N7q
  have F7 := F6.keep K7 hm2
  have Z7 := Nat.le_trans Z6 K7.1
  obtain ⟨cq8, kq8, q8a, q8b, q8c⟩ := isOf hZ rfl (((((E_b2.keep K3).ext E4).keep K5).keep K6).keep K7)
  obtain ⟨_, _, ⟨T8, L8, k8, n8⟩, -, X8, ⟨Lc8, hQ8, l8, y8, z8⟩, st8⟩ := X7.virtualBack hx (y := (⟨"com/example/ticks_to_order/tickstoorder/simulation/SplitMix64", "nextLong", "()J"⟩ : MethodName)) (z := (⟨"com/example/ticks_to_order/tickstoorder/simulation/SplitMix64", "nextLong", "()J"⟩ : MethodName)) hown (mvT hZ (hw _ (List.mem_of_getElem? (i := 11) rfl))) (mvT hZ (hw _ (List.mem_of_getElem? (i := 12) rfl))) (notFace_of_selects (args := #[]) (mvT hZ (hw _ (List.mem_of_getElem? (i := 14) rfl)))) (mvT hZ (hw _ (List.mem_of_getElem? (i := 14) rfl))) (mvT hZ (hw _ (List.mem_of_getElem? (i := 13) rfl))) (by decide) (backOf (W := 0) (rm3 l Z a0 hw [] b2 (q1 + (-7046029254386353131 : Int64)) T7.heap n0 Z7 G7 E7 g_b2) hZ (hw _ (List.mem_of_getElem? (i := 15) rfl)) (hw _ (List.mem_of_getElem? (i := 2) rfl)) (by decide) (by decide)) q8a q8c (g := (mkF m 92 #[.val (.long q1), .second, .val (.ref b2), .val (.ref b4), .val (.long (own_mix (q1 + (-7046029254386353131 : Int64)))), .second, .val (.double (own_nd (own_mix (q1 + (-7046029254386353131 : Int64))))), .second, .val (.long (own_top (own_mix (q1 + (-7046029254386353131 : Int64))))), .second, .val (.int (1 : Int32)), .val (.double (FP.dmul (own_nd (own_mix (q1 + (-7046029254386353131 : Int64)))) (4845873199050653696 : UInt64))), .second, .val (.int (1 : Int32)), .unset] [(.ref b2)])) rfl (by rw [hml]; rfl) (Steps.refl _) (argsL := []) (rest := []) (lenOf pd_0_2 rfl) rfl (by show 2 * 0 + _ ≤ _; exact Nat.le_of_eq rfl) (hb hby at_92) (fun _ _ => ⟨rfl, rfl, (by decide : 2 + 0 ≤ _), (by decide : 2 + 0 ≤ _)⟩)
  dsimp only [Pt.U, Pt.locs, Pt.cells, Pt.slots] at X8 l8 y8 z8 st8 hQ8
  subst l8 y8 z8
  obtain ⟨rfl, N8q, K8, E8, G8⟩ := hQ8
  have N8 := Fr.app N7 N8q
  have F8 := F7.keep K8 hm2
  have D8 := (E6.keep K7).keep K8
  have Z8 := Nat.le_trans Z7 K8.1
  obtain ⟨cq9, kq9, q9a, q9b, q9c⟩ := isOf hZ rfl ((((E_b4.keep K5).keep K6).keep K7).keep K8)
  obtain ⟨_, _, ⟨T9, L9, k9, n9⟩, -, X9, ⟨Lc9, hQ9, l9, y9, z9⟩, st9⟩ := X8.virtualBack hx (y := (⟨"com/example/ticks_to_order/tickstoorder/simulation/SplitMix64", "nextLong", "()J"⟩ : MethodName)) (z := (⟨"com/example/ticks_to_order/tickstoorder/simulation/SplitMix64", "nextLong", "()J"⟩ : MethodName)) hown (mvT hZ (hw _ (List.mem_of_getElem? (i := 11) rfl))) (mvT hZ (hw _ (List.mem_of_getElem? (i := 12) rfl))) (notFace_of_selects (args := #[]) (mvT hZ (hw _ (List.mem_of_getElem? (i := 14) rfl)))) (mvT hZ (hw _ (List.mem_of_getElem? (i := 14) rfl))) (mvT hZ (hw _ (List.mem_of_getElem? (i := 13) rfl))) (by decide) (backOf (W := 2) (rm3 l Z a0 hw [] b4 (q1 + (-7046029254386353131 : Int64)) T8.heap n0 Z8 F8 D8 g_b4) hZ (hw _ (List.mem_of_getElem? (i := 15) rfl)) (hw _ (List.mem_of_getElem? (i := 2) rfl)) (by decide) (by decide)) q9a q9c (g := (mkF m 96 #[.val (.long q1), .second, .val (.ref b2), .val (.ref b4), .val (.long (own_mix (q1 + (-7046029254386353131 : Int64)))), .second, .val (.double (own_nd (own_mix (q1 + (-7046029254386353131 : Int64))))), .second, .val (.long (own_top (own_mix (q1 + (-7046029254386353131 : Int64))))), .second, .val (.int (1 : Int32)), .val (.double (FP.dmul (own_nd (own_mix (q1 + (-7046029254386353131 : Int64)))) (4845873199050653696 : UInt64))), .second, .val (.int (1 : Int32)), .unset] [(.ref b4), (.long (own_mix ((q1 + (-7046029254386353131 : Int64)) + (-7046029254386353131 : Int64))))])) rfl (by rw [hml]; rfl) (Steps.refl _) (argsL := []) (rest := [(.long (own_mix ((q1 + (-7046029254386353131 : Int64)) + (-7046029254386353131 : Int64))))]) (lenOf pd_0_2 rfl) rfl (by show 2 * 0 + _ ≤ _; exact Nat.le_of_eq rfl) (hb hby at_96) (fun _ _ => ⟨rfl, rfl, (by decide : 2 + 0 ≤ _), (by decide : 2 + 0 ≤ _)⟩)
  dsimp only [Pt.U, Pt.locs, Pt.cells, Pt.slots] at X9 l9 y9 z9 st9 hQ9
  subst l9 y9 z9
  obtain ⟨rfl, N9q, K9, E9, F9⟩ := hQ9
  have N9 := Fr.app N8 N9q
  obtain ⟨fs, hr, hrun, hended, hW, hsame⟩ := X9.leave (v := some (.int (1 : Int32))) (fun h => by rw [Bd.returns] at h; cases h)
  refine ⟨_, _, pre0 _ ?_, hrun, hended, _, _, rfl, ?_, ⟨_, rfl⟩, hW, hsame.mono (by decide) (by decide)⟩
  · show Steps p.tables e below (s₁.setTop (mkF m 0 #[.val (.long q1), .second, .unset, .unset, .unset, .unset, .unset, .unset, .unset, .unset, .unset, .unset, .unset, .unset, .unset] [])) _
    refine st2 _ ?_
    show Steps p.tables e below (T2.setTop (mkF m 3 #[.val (.long q1), .second, .unset, .unset, .unset, .unset, .unset, .unset, .unset, .unset, .unset, .unset, .unset, .unset, .unset] [(.ref b2)])) _
    refine XS.dup X2.here hx rfl (hb hby at_3) rfl rfl ?_
    show Steps p.tables e below (T2.setTop (mkF m 4 #[.val (.long q1), .second, .unset, .unset, .unset, .unset, .unset, .unset, .unset, .unset, .unset, .unset, .unset, .unset, .unset] [(.ref b2), (.ref b2)])) _
    refine XS.lloadN X2.here hx rfl (hb hby at_4) rfl ?_
    show Steps p.tables e below (T2.setTop (mkF m 5 #[.val (.long q1), .second, .unset, .unset, .unset, .unset, .unset, .unset, .unset, .unset, .unset, .unset, .unset, .unset, .unset] [(.long q1), (.ref b2), (.ref b2)])) _
    refine st3.trans ?_
    show Steps p.tables e below (T3.setTop (mkF m 8 #[.val (.long q1), .second, .unset, .unset, .unset, .unset, .unset, .unset, .unset, .unset, .unset, .unset, .unset, .unset, .unset] [(.ref b2)])) _
    refine XS.astoreN X3.here hx rfl (hb hby at_8) rfl rfl (l' := #[.val (.long q1), .second, .val (.ref b2), .unset, .unset, .unset, .unset, .unset, .unset, .unset, .unset, .unset, .unset, .unset, .unset]) rfl ?_
    show Steps p.tables e below (T3.setTop (mkF m 9 #[.val (.long q1), .second, .val (.ref b2), .unset, .unset, .unset, .unset, .unset, .unset, .unset, .unset, .unset, .unset, .unset, .unset] [])) _
    refine st4 _ ?_
    show Steps p.tables e below (T4.setTop (mkF m 12 #[.val (.long q1), .second, .val (.ref b2), .unset, .unset, .unset, .unset, .unset, .unset, .unset, .unset, .unset, .unset, .unset, .unset] [(.ref b4)])) _
    refine XS.dup X4.here hx rfl (hb hby at_12) rfl rfl ?_
    show Steps p.tables e below (T4.setTop (mkF m 13 #[.val (.long q1), .second, .val (.ref b2), .unset, .unset, .unset, .unset, .unset, .unset, .unset, .unset, .unset, .unset, .unset, .unset] [(.ref b4), (.ref b4)])) _
    refine XS.lloadN X4.here hx rfl (hb hby at_13) rfl ?_
    show Steps p.tables e below (T4.setTop (mkF m 14 #[.val (.long q1), .second, .val (.ref b2), .unset, .unset, .unset, .unset, .unset, .unset, .unset, .unset, .unset, .unset, .unset, .unset] [(.long q1), (.ref b4), (.ref b4)])) _
    refine st5.trans ?_
    show Steps p.tables e below (T5.setTop (mkF m 17 #[.val (.long q1), .second, .val (.ref b2), .unset, .unset, .unset, .unset, .unset, .unset, .unset, .unset, .unset, .unset, .unset, .unset] [(.ref b4)])) _
    refine XS.astoreN X5.here hx rfl (hb hby at_17) rfl rfl (l' := #[.val (.long q1), .second, .val (.ref b2), .val (.ref b4), .unset, .unset, .unset, .unset, .unset, .unset, .unset, .unset, .unset, .unset, .unset]) rfl ?_
    show Steps p.tables e below (T5.setTop (mkF m 18 #[.val (.long q1), .second, .val (.ref b2), .val (.ref b4), .unset, .unset, .unset, .unset, .unset, .unset, .unset, .unset, .unset, .unset, .unset] [])) _
    refine XS.aloadN X5.here hx rfl (hb hby at_18) rfl rfl ?_
    show Steps p.tables e below (T5.setTop (mkF m 19 #[.val (.long q1), .second, .val (.ref b2), .val (.ref b4), .unset, .unset, .unset, .unset, .unset, .unset, .unset, .unset, .unset, .unset, .unset] [(.ref b4)])) _
    refine st6.trans ?_
    show Steps p.tables e below (T6.setTop (mkF m 22 #[.val (.long q1), .second, .val (.ref b2), .val (.ref b4), .unset, .unset, .unset, .unset, .unset, .unset, .unset, .unset, .unset, .unset, .unset] [(.long (own_mix (q1 + (-7046029254386353131 : Int64))))])) _
    refine XS.lstore X6.here hx rfl (hb hby at_22) rfl (l' := #[.val (.long q1), .second, .val (.ref b2), .val (.ref b4), .val (.long (own_mix (q1 + (-7046029254386353131 : Int64)))), .second, .unset, .unset, .unset, .unset, .unset, .unset, .unset, .unset, .unset]) rfl ?_
    show Steps p.tables e below (T6.setTop (mkF m 24 #[.val (.long q1), .second, .val (.ref b2), .val (.ref b4), .val (.long (own_mix (q1 + (-7046029254386353131 : Int64)))), .second, .unset, .unset, .unset, .unset, .unset, .unset, .unset, .unset, .unset] [])) _
    refine XS.aloadN X6.here hx rfl (hb hby at_24) rfl rfl ?_
    show Steps p.tables e below (T6.setTop (mkF m 25 #[.val (.long q1), .second, .val (.ref b2), .val (.ref b4), .val (.long (own_mix (q1 + (-7046029254386353131 : Int64)))), .second, .unset, .unset, .unset, .unset, .unset, .unset, .unset, .unset, .unset] [(.ref b2)])) _
    refine st7.trans ?_
    show Steps p.tables e below (T7.setTop (mkF m 28 #[.val (.long q1), .second, .val (.ref b2), .val (.ref b4), .val (.long (own_mix (q1 + (-7046029254386353131 : Int64)))), .second, .unset, .unset, .unset, .unset, .unset, .unset, .unset, .unset, .unset] [(.double (own_nd (own_mix (q1 + (-7046029254386353131 : Int64)))))])) _
    refine XS.dstore X7.here hx rfl (hb hby at_28) rfl (l' := #[.val (.long q1), .second, .val (.ref b2), .val (.ref b4), .val (.long (own_mix (q1 + (-7046029254386353131 : Int64)))), .second, .val (.double (own_nd (own_mix (q1 + (-7046029254386353131 : Int64))))), .second, .unset, .unset, .unset, .unset, .unset, .unset, .unset]) rfl ?_
    show Steps p.tables e below (T7.setTop (mkF m 30 #[.val (.long q1), .second, .val (.ref b2), .val (.ref b4), .val (.long (own_mix (q1 + (-7046029254386353131 : Int64)))), .second, .val (.double (own_nd (own_mix (q1 + (-7046029254386353131 : Int64))))), .second, .unset, .unset, .unset, .unset, .unset, .unset, .unset] [])) _
    refine XS.lload X7.here hx rfl (hb hby at_30) rfl ?_
    show Steps p.tables e below (T7.setTop (mkF m 32 #[.val (.long q1), .second, .val (.ref b2), .val (.ref b4), .val (.long (own_mix (q1 + (-7046029254386353131 : Int64)))), .second, .val (.double (own_nd (own_mix (q1 + (-7046029254386353131 : Int64))))), .second, .unset, .unset, .unset, .unset, .unset, .unset, .unset] [(.long (own_mix (q1 + (-7046029254386353131 : Int64))))])) _
    refine XS.bipush X7.here hx rfl (hb hby at_32) ?_
    show Steps p.tables e below (T7.setTop (mkF m 34 #[.val (.long q1), .second, .val (.ref b2), .val (.ref b4), .val (.long (own_mix (q1 + (-7046029254386353131 : Int64)))), .second, .val (.double (own_nd (own_mix (q1 + (-7046029254386353131 : Int64))))), .second, .unset, .unset, .unset, .unset, .unset, .unset, .unset] [(.int (11 : Int32)), (.long (own_mix (q1 + (-7046029254386353131 : Int64))))])) _
    refine XS.lushr X7.here hx rfl (hb hby at_34) rfl ?_
    show Steps p.tables e below (T7.setTop (mkF m 35 #[.val (.long q1), .second, .val (.ref b2), .val (.ref b4), .val (.long (own_mix (q1 + (-7046029254386353131 : Int64)))), .second, .val (.double (own_nd (own_mix (q1 + (-7046029254386353131 : Int64))))), .second, .unset, .unset, .unset, .unset, .unset, .unset, .unset] [(.long (own_top (own_mix (q1 + (-7046029254386353131 : Int64)))))])) _
    refine XS.lstore X7.here hx rfl (hb hby at_35) rfl (l' := #[.val (.long q1), .second, .val (.ref b2), .val (.ref b4), .val (.long (own_mix (q1 + (-7046029254386353131 : Int64)))), .second, .val (.double (own_nd (own_mix (q1 + (-7046029254386353131 : Int64))))), .second, .val (.long (own_top (own_mix (q1 + (-7046029254386353131 : Int64))))), .second, .unset, .unset, .unset, .unset, .unset]) rfl ?_
    show Steps p.tables e below (T7.setTop (mkF m 37 #[.val (.long q1), .second, .val (.ref b2), .val (.ref b4), .val (.long (own_mix (q1 + (-7046029254386353131 : Int64)))), .second, .val (.double (own_nd (own_mix (q1 + (-7046029254386353131 : Int64))))), .second, .val (.long (own_top (own_mix (q1 + (-7046029254386353131 : Int64))))), .second, .unset, .unset, .unset, .unset, .unset] [])) _
    refine XS.dload X7.here hx rfl (hb hby at_37) rfl ?_
    show Steps p.tables e below (T7.setTop (mkF m 39 #[.val (.long q1), .second, .val (.ref b2), .val (.ref b4), .val (.long (own_mix (q1 + (-7046029254386353131 : Int64)))), .second, .val (.double (own_nd (own_mix (q1 + (-7046029254386353131 : Int64))))), .second, .val (.long (own_top (own_mix (q1 + (-7046029254386353131 : Int64))))), .second, .unset, .unset, .unset, .unset, .unset] [(.double (own_nd (own_mix (q1 + (-7046029254386353131 : Int64)))))])) _
    refine XS.dconst0 X7.here hx rfl (hb hby at_39) rfl ?_
    show Steps p.tables e below (T7.setTop (mkF m 40 #[.val (.long q1), .second, .val (.ref b2), .val (.ref b4), .val (.long (own_mix (q1 + (-7046029254386353131 : Int64)))), .second, .val (.double (own_nd (own_mix (q1 + (-7046029254386353131 : Int64))))), .second, .val (.long (own_top (own_mix (q1 + (-7046029254386353131 : Int64))))), .second, .unset, .unset, .unset, .unset, .unset] [(.double FP.dconst0), (.double (own_nd (own_mix (q1 + (-7046029254386353131 : Int64)))))])) _
    refine XS.dcmpS X7.here hx rfl (hb hby at_40) rfl rfl ?_
    show Steps p.tables e below (T7.setTop (mkF m 41 #[.val (.long q1), .second, .val (.ref b2), .val (.ref b4), .val (.long (own_mix (q1 + (-7046029254386353131 : Int64)))), .second, .val (.double (own_nd (own_mix (q1 + (-7046029254386353131 : Int64))))), .second, .val (.long (own_top (own_mix (q1 + (-7046029254386353131 : Int64))))), .second, .unset, .unset, .unset, .unset, .unset] [(.int (cmpValue (FP.dcmp (own_nd (own_mix (q1 + (-7046029254386353131 : Int64)))) FP.dconst0) .l))])) _
    refine XS.ifNo X7.here hx rfl (hb hby at_41) rfl ((if0 _ _).trans (flt (own_c1 _ : ¬ ((cmpValue (FP.dcmp (own_nd (own_mix (q1 + (-7046029254386353131 : Int64)))) FP.dconst0) .l) < (0 : Int32)))).1) ?_
    show Steps p.tables e below (T7.setTop (mkF m 44 #[.val (.long q1), .second, .val (.ref b2), .val (.ref b4), .val (.long (own_mix (q1 + (-7046029254386353131 : Int64)))), .second, .val (.double (own_nd (own_mix (q1 + (-7046029254386353131 : Int64))))), .second, .val (.long (own_top (own_mix (q1 + (-7046029254386353131 : Int64))))), .second, .unset, .unset, .unset, .unset, .unset] [])) _
    refine XS.dload X7.here hx rfl (hb hby at_44) rfl ?_
    show Steps p.tables e below (T7.setTop (mkF m 46 #[.val (.long q1), .second, .val (.ref b2), .val (.ref b4), .val (.long (own_mix (q1 + (-7046029254386353131 : Int64)))), .second, .val (.double (own_nd (own_mix (q1 + (-7046029254386353131 : Int64))))), .second, .val (.long (own_top (own_mix (q1 + (-7046029254386353131 : Int64))))), .second, .unset, .unset, .unset, .unset, .unset] [(.double (own_nd (own_mix (q1 + (-7046029254386353131 : Int64)))))])) _
    refine XS.dconst1 X7.here hx rfl (hb hby at_46) rfl ?_
    show Steps p.tables e below (T7.setTop (mkF m 47 #[.val (.long q1), .second, .val (.ref b2), .val (.ref b4), .val (.long (own_mix (q1 + (-7046029254386353131 : Int64)))), .second, .val (.double (own_nd (own_mix (q1 + (-7046029254386353131 : Int64))))), .second, .val (.long (own_top (own_mix (q1 + (-7046029254386353131 : Int64))))), .second, .unset, .unset, .unset, .unset, .unset] [(.double FP.dconst1), (.double (own_nd (own_mix (q1 + (-7046029254386353131 : Int64)))))])) _
    refine XS.dcmpS X7.here hx rfl (hb hby at_47) rfl rfl ?_
    show Steps p.tables e below (T7.setTop (mkF m 48 #[.val (.long q1), .second, .val (.ref b2), .val (.ref b4), .val (.long (own_mix (q1 + (-7046029254386353131 : Int64)))), .second, .val (.double (own_nd (own_mix (q1 + (-7046029254386353131 : Int64))))), .second, .val (.long (own_top (own_mix (q1 + (-7046029254386353131 : Int64))))), .second, .unset, .unset, .unset, .unset, .unset] [(.int (cmpValue (FP.dcmp (own_nd (own_mix (q1 + (-7046029254386353131 : Int64)))) FP.dconst1) .g))])) _
    refine XS.ifNo X7.here hx rfl (hb hby at_48) rfl ((if0 _ _).trans (tlt (own_c2 _ : (cmpValue (FP.dcmp (own_nd (own_mix (q1 + (-7046029254386353131 : Int64)))) FP.dconst1) .g) < (0 : Int32))).2.1) ?_
    show Steps p.tables e below (T7.setTop (mkF m 51 #[.val (.long q1), .second, .val (.ref b2), .val (.ref b4), .val (.long (own_mix (q1 + (-7046029254386353131 : Int64)))), .second, .val (.double (own_nd (own_mix (q1 + (-7046029254386353131 : Int64))))), .second, .val (.long (own_top (own_mix (q1 + (-7046029254386353131 : Int64))))), .second, .unset, .unset, .unset, .unset, .unset] [])) _
    refine XS.iconst X7.here hx rfl (hb hby at_51) ?_
    show Steps p.tables e below (T7.setTop (mkF m 52 #[.val (.long q1), .second, .val (.ref b2), .val (.ref b4), .val (.long (own_mix (q1 + (-7046029254386353131 : Int64)))), .second, .val (.double (own_nd (own_mix (q1 + (-7046029254386353131 : Int64))))), .second, .val (.long (own_top (own_mix (q1 + (-7046029254386353131 : Int64))))), .second, .unset, .unset, .unset, .unset, .unset] [(.int (1 : Int32))])) _
    refine XS.goto X7.here hx rfl (pc0 := 52) (pc' := 56) rfl (hb hby at_52) (by decide) (by decide) ?_
    show Steps p.tables e below (T7.setTop (mkF m 56 #[.val (.long q1), .second, .val (.ref b2), .val (.ref b4), .val (.long (own_mix (q1 + (-7046029254386353131 : Int64)))), .second, .val (.double (own_nd (own_mix (q1 + (-7046029254386353131 : Int64))))), .second, .val (.long (own_top (own_mix (q1 + (-7046029254386353131 : Int64))))), .second, .unset, .unset, .unset, .unset, .unset] [(.int (1 : Int32))])) _
    refine XS.istore X7.here hx rfl (hb hby at_56) rfl (l' := #[.val (.long q1), .second, .val (.ref b2), .val (.ref b4), .val (.long (own_mix (q1 + (-7046029254386353131 : Int64)))), .second, .val (.double (own_nd (own_mix (q1 + (-7046029254386353131 : Int64))))), .second, .val (.long (own_top (own_mix (q1 + (-7046029254386353131 : Int64))))), .second, .val (.int (1 : Int32)), .unset, .unset, .unset, .unset]) rfl ?_
    show Steps p.tables e below (T7.setTop (mkF m 58 #[.val (.long q1), .second, .val (.ref b2), .val (.ref b4), .val (.long (own_mix (q1 + (-7046029254386353131 : Int64)))), .second, .val (.double (own_nd (own_mix (q1 + (-7046029254386353131 : Int64))))), .second, .val (.long (own_top (own_mix (q1 + (-7046029254386353131 : Int64))))), .second, .val (.int (1 : Int32)), .unset, .unset, .unset, .unset] [])) _
    refine XS.dload X7.here hx rfl (hb hby at_58) rfl ?_
    show Steps p.tables e below (T7.setTop (mkF m 60 #[.val (.long q1), .second, .val (.ref b2), .val (.ref b4), .val (.long (own_mix (q1 + (-7046029254386353131 : Int64)))), .second, .val (.double (own_nd (own_mix (q1 + (-7046029254386353131 : Int64))))), .second, .val (.long (own_top (own_mix (q1 + (-7046029254386353131 : Int64))))), .second, .val (.int (1 : Int32)), .unset, .unset, .unset, .unset] [(.double (own_nd (own_mix (q1 + (-7046029254386353131 : Int64)))))])) _
    refine X7.ldc2DoubleC hx hown (mvT hZ (hw _ (List.mem_of_getElem? (i := 26) rfl))) (g := (mkF m 60 #[.val (.long q1), .second, .val (.ref b2), .val (.ref b4), .val (.long (own_mix (q1 + (-7046029254386353131 : Int64)))), .second, .val (.double (own_nd (own_mix (q1 + (-7046029254386353131 : Int64))))), .second, .val (.long (own_top (own_mix (q1 + (-7046029254386353131 : Int64))))), .second, .val (.int (1 : Int32)), .unset, .unset, .unset, .unset] [(.double (own_nd (own_mix (q1 + (-7046029254386353131 : Int64)))))])) rfl (hb hby at_60) _ ?_
    show Steps p.tables e below (T7.setTop (mkF m 63 #[.val (.long q1), .second, .val (.ref b2), .val (.ref b4), .val (.long (own_mix (q1 + (-7046029254386353131 : Int64)))), .second, .val (.double (own_nd (own_mix (q1 + (-7046029254386353131 : Int64))))), .second, .val (.long (own_top (own_mix (q1 + (-7046029254386353131 : Int64))))), .second, .val (.int (1 : Int32)), .unset, .unset, .unset, .unset] [(.double (4845873199050653696 : UInt64)), (.double (own_nd (own_mix (q1 + (-7046029254386353131 : Int64)))))])) _
    refine XS.dmulS X7.here hx rfl (hb hby at_63) rfl (own_D_nn (own_sc_D (own_mix (q1 + (-7046029254386353131 : Int64))))) rfl ?_
    show Steps p.tables e below (T7.setTop (mkF m 64 #[.val (.long q1), .second, .val (.ref b2), .val (.ref b4), .val (.long (own_mix (q1 + (-7046029254386353131 : Int64)))), .second, .val (.double (own_nd (own_mix (q1 + (-7046029254386353131 : Int64))))), .second, .val (.long (own_top (own_mix (q1 + (-7046029254386353131 : Int64))))), .second, .val (.int (1 : Int32)), .unset, .unset, .unset, .unset] [(.double (FP.dmul (own_nd (own_mix (q1 + (-7046029254386353131 : Int64)))) (4845873199050653696 : UInt64)))])) _
    refine XS.dstore X7.here hx rfl (hb hby at_64) rfl (l' := #[.val (.long q1), .second, .val (.ref b2), .val (.ref b4), .val (.long (own_mix (q1 + (-7046029254386353131 : Int64)))), .second, .val (.double (own_nd (own_mix (q1 + (-7046029254386353131 : Int64))))), .second, .val (.long (own_top (own_mix (q1 + (-7046029254386353131 : Int64))))), .second, .val (.int (1 : Int32)), .val (.double (FP.dmul (own_nd (own_mix (q1 + (-7046029254386353131 : Int64)))) (4845873199050653696 : UInt64))), .second, .unset, .unset]) rfl ?_
    show Steps p.tables e below (T7.setTop (mkF m 66 #[.val (.long q1), .second, .val (.ref b2), .val (.ref b4), .val (.long (own_mix (q1 + (-7046029254386353131 : Int64)))), .second, .val (.double (own_nd (own_mix (q1 + (-7046029254386353131 : Int64))))), .second, .val (.long (own_top (own_mix (q1 + (-7046029254386353131 : Int64))))), .second, .val (.int (1 : Int32)), .val (.double (FP.dmul (own_nd (own_mix (q1 + (-7046029254386353131 : Int64)))) (4845873199050653696 : UInt64))), .second, .unset, .unset] [])) _
    refine XS.dload X7.here hx rfl (hb hby at_66) rfl ?_
    show Steps p.tables e below (T7.setTop (mkF m 68 #[.val (.long q1), .second, .val (.ref b2), .val (.ref b4), .val (.long (own_mix (q1 + (-7046029254386353131 : Int64)))), .second, .val (.double (own_nd (own_mix (q1 + (-7046029254386353131 : Int64))))), .second, .val (.long (own_top (own_mix (q1 + (-7046029254386353131 : Int64))))), .second, .val (.int (1 : Int32)), .val (.double (FP.dmul (own_nd (own_mix (q1 + (-7046029254386353131 : Int64)))) (4845873199050653696 : UInt64))), .second, .unset, .unset] [(.double (FP.dmul (own_nd (own_mix (q1 + (-7046029254386353131 : Int64)))) (4845873199050653696 : UInt64)))])) _
    refine XS.lload X7.here hx rfl (hb hby at_68) rfl ?_
    show Steps p.tables e below (T7.setTop (mkF m 70 #[.val (.long q1), .second, .val (.ref b2), .val (.ref b4), .val (.long (own_mix (q1 + (-7046029254386353131 : Int64)))), .second, .val (.double (own_nd (own_mix (q1 + (-7046029254386353131 : Int64))))), .second, .val (.long (own_top (own_mix (q1 + (-7046029254386353131 : Int64))))), .second, .val (.int (1 : Int32)), .val (.double (FP.dmul (own_nd (own_mix (q1 + (-7046029254386353131 : Int64)))) (4845873199050653696 : UInt64))), .second, .unset, .unset] [(.long (own_top (own_mix (q1 + (-7046029254386353131 : Int64))))), (.double (FP.dmul (own_nd (own_mix (q1 + (-7046029254386353131 : Int64)))) (4845873199050653696 : UInt64)))])) _
    refine XS.l2dS X7.here hx rfl (hb hby at_70) rfl rfl ?_
    show Steps p.tables e below (T7.setTop (mkF m 71 #[.val (.long q1), .second, .val (.ref b2), .val (.ref b4), .val (.long (own_mix (q1 + (-7046029254386353131 : Int64)))), .second, .val (.double (own_nd (own_mix (q1 + (-7046029254386353131 : Int64))))), .second, .val (.long (own_top (own_mix (q1 + (-7046029254386353131 : Int64))))), .second, .val (.int (1 : Int32)), .val (.double (FP.dmul (own_nd (own_mix (q1 + (-7046029254386353131 : Int64)))) (4845873199050653696 : UInt64))), .second, .unset, .unset] [(.double (FP.l2d (own_top (own_mix (q1 + (-7046029254386353131 : Int64)))))), (.double (FP.dmul (own_nd (own_mix (q1 + (-7046029254386353131 : Int64)))) (4845873199050653696 : UInt64)))])) _
    refine XS.dcmpS X7.here hx rfl (hb hby at_71) rfl rfl ?_
    show Steps p.tables e below (T7.setTop (mkF m 72 #[.val (.long q1), .second, .val (.ref b2), .val (.ref b4), .val (.long (own_mix (q1 + (-7046029254386353131 : Int64)))), .second, .val (.double (own_nd (own_mix (q1 + (-7046029254386353131 : Int64))))), .second, .val (.long (own_top (own_mix (q1 + (-7046029254386353131 : Int64))))), .second, .val (.int (1 : Int32)), .val (.double (FP.dmul (own_nd (own_mix (q1 + (-7046029254386353131 : Int64)))) (4845873199050653696 : UInt64))), .second, .unset, .unset] [(.int (cmpValue (FP.dcmp (FP.dmul (own_nd (own_mix (q1 + (-7046029254386353131 : Int64)))) (4845873199050653696 : UInt64)) (FP.l2d (own_top (own_mix (q1 + (-7046029254386353131 : Int64)))))) .l))])) _
    refine XS.ifNo X7.here hx rfl (hb hby at_72) rfl ((if0 _ _).trans (teq (own_c3 _ : (cmpValue (FP.dcmp (FP.dmul (own_nd (own_mix (q1 + (-7046029254386353131 : Int64)))) (4845873199050653696 : UInt64)) (FP.l2d (own_top (own_mix (q1 + (-7046029254386353131 : Int64)))))) .l) = (0 : Int32))).2) ?_
    show Steps p.tables e below (T7.setTop (mkF m 75 #[.val (.long q1), .second, .val (.ref b2), .val (.ref b4), .val (.long (own_mix (q1 + (-7046029254386353131 : Int64)))), .second, .val (.double (own_nd (own_mix (q1 + (-7046029254386353131 : Int64))))), .second, .val (.long (own_top (own_mix (q1 + (-7046029254386353131 : Int64))))), .second, .val (.int (1 : Int32)), .val (.double (FP.dmul (own_nd (own_mix (q1 + (-7046029254386353131 : Int64)))) (4845873199050653696 : UInt64))), .second, .unset, .unset] [])) _
    refine XS.dload X7.here hx rfl (hb hby at_75) rfl ?_
    show Steps p.tables e below (T7.setTop (mkF m 77 #[.val (.long q1), .second, .val (.ref b2), .val (.ref b4), .val (.long (own_mix (q1 + (-7046029254386353131 : Int64)))), .second, .val (.double (own_nd (own_mix (q1 + (-7046029254386353131 : Int64))))), .second, .val (.long (own_top (own_mix (q1 + (-7046029254386353131 : Int64))))), .second, .val (.int (1 : Int32)), .val (.double (FP.dmul (own_nd (own_mix (q1 + (-7046029254386353131 : Int64)))) (4845873199050653696 : UInt64))), .second, .unset, .unset] [(.double (FP.dmul (own_nd (own_mix (q1 + (-7046029254386353131 : Int64)))) (4845873199050653696 : UInt64)))])) _
    refine XS.d2lS X7.here hx rfl (hb hby at_77) rfl rfl ?_
    show Steps p.tables e below (T7.setTop (mkF m 78 #[.val (.long q1), .second, .val (.ref b2), .val (.ref b4), .val (.long (own_mix (q1 + (-7046029254386353131 : Int64)))), .second, .val (.double (own_nd (own_mix (q1 + (-7046029254386353131 : Int64))))), .second, .val (.long (own_top (own_mix (q1 + (-7046029254386353131 : Int64))))), .second, .val (.int (1 : Int32)), .val (.double (FP.dmul (own_nd (own_mix (q1 + (-7046029254386353131 : Int64)))) (4845873199050653696 : UInt64))), .second, .unset, .unset] [(.long (FP.d2l (FP.dmul (own_nd (own_mix (q1 + (-7046029254386353131 : Int64)))) (4845873199050653696 : UInt64))))])) _
    refine XS.lload X7.here hx rfl (hb hby at_78) rfl ?_
    show Steps p.tables e below (T7.setTop (mkF m 80 #[.val (.long q1), .second, .val (.ref b2), .val (.ref b4), .val (.long (own_mix (q1 + (-7046029254386353131 : Int64)))), .second, .val (.double (own_nd (own_mix (q1 + (-7046029254386353131 : Int64))))), .second, .val (.long (own_top (own_mix (q1 + (-7046029254386353131 : Int64))))), .second, .val (.int (1 : Int32)), .val (.double (FP.dmul (own_nd (own_mix (q1 + (-7046029254386353131 : Int64)))) (4845873199050653696 : UInt64))), .second, .unset, .unset] [(.long (own_top (own_mix (q1 + (-7046029254386353131 : Int64))))), (.long (FP.d2l (FP.dmul (own_nd (own_mix (q1 + (-7046029254386353131 : Int64)))) (4845873199050653696 : UInt64))))])) _
    refine XS.lcmp X7.here hx rfl (hb hby at_80) rfl ?_
    show Steps p.tables e below (T7.setTop (mkF m 81 #[.val (.long q1), .second, .val (.ref b2), .val (.ref b4), .val (.long (own_mix (q1 + (-7046029254386353131 : Int64)))), .second, .val (.double (own_nd (own_mix (q1 + (-7046029254386353131 : Int64))))), .second, .val (.long (own_top (own_mix (q1 + (-7046029254386353131 : Int64))))), .second, .val (.int (1 : Int32)), .val (.double (FP.dmul (own_nd (own_mix (q1 + (-7046029254386353131 : Int64)))) (4845873199050653696 : UInt64))), .second, .unset, .unset] [(.int (lcmpW (FP.d2l (FP.dmul (own_nd (own_mix (q1 + (-7046029254386353131 : Int64)))) (4845873199050653696 : UInt64))) (own_top (own_mix (q1 + (-7046029254386353131 : Int64))))))])) _
    refine XS.ifNo X7.here hx rfl (hb hby at_81) rfl ((if0 _ _).trans (teq ((lw_eq _ _).mpr (own_c4 _) : (lcmpW (FP.d2l (FP.dmul (own_nd (own_mix (q1 + (-7046029254386353131 : Int64)))) (4845873199050653696 : UInt64))) (own_top (own_mix (q1 + (-7046029254386353131 : Int64))))) = (0 : Int32))).2) ?_
    show Steps p.tables e below (T7.setTop (mkF m 84 #[.val (.long q1), .second, .val (.ref b2), .val (.ref b4), .val (.long (own_mix (q1 + (-7046029254386353131 : Int64)))), .second, .val (.double (own_nd (own_mix (q1 + (-7046029254386353131 : Int64))))), .second, .val (.long (own_top (own_mix (q1 + (-7046029254386353131 : Int64))))), .second, .val (.int (1 : Int32)), .val (.double (FP.dmul (own_nd (own_mix (q1 + (-7046029254386353131 : Int64)))) (4845873199050653696 : UInt64))), .second, .unset, .unset] [])) _
    refine XS.iconst X7.here hx rfl (hb hby at_84) ?_
    show Steps p.tables e below (T7.setTop (mkF m 85 #[.val (.long q1), .second, .val (.ref b2), .val (.ref b4), .val (.long (own_mix (q1 + (-7046029254386353131 : Int64)))), .second, .val (.double (own_nd (own_mix (q1 + (-7046029254386353131 : Int64))))), .second, .val (.long (own_top (own_mix (q1 + (-7046029254386353131 : Int64))))), .second, .val (.int (1 : Int32)), .val (.double (FP.dmul (own_nd (own_mix (q1 + (-7046029254386353131 : Int64)))) (4845873199050653696 : UInt64))), .second, .unset, .unset] [(.int (1 : Int32))])) _
    refine XS.goto X7.here hx rfl (pc0 := 85) (pc' := 89) rfl (hb hby at_85) (by decide) (by decide) ?_
    show Steps p.tables e below (T7.setTop (mkF m 89 #[.val (.long q1), .second, .val (.ref b2), .val (.ref b4), .val (.long (own_mix (q1 + (-7046029254386353131 : Int64)))), .second, .val (.double (own_nd (own_mix (q1 + (-7046029254386353131 : Int64))))), .second, .val (.long (own_top (own_mix (q1 + (-7046029254386353131 : Int64))))), .second, .val (.int (1 : Int32)), .val (.double (FP.dmul (own_nd (own_mix (q1 + (-7046029254386353131 : Int64)))) (4845873199050653696 : UInt64))), .second, .unset, .unset] [(.int (1 : Int32))])) _
    refine XS.istore X7.here hx rfl (hb hby at_89) rfl (l' := #[.val (.long q1), .second, .val (.ref b2), .val (.ref b4), .val (.long (own_mix (q1 + (-7046029254386353131 : Int64)))), .second, .val (.double (own_nd (own_mix (q1 + (-7046029254386353131 : Int64))))), .second, .val (.long (own_top (own_mix (q1 + (-7046029254386353131 : Int64))))), .second, .val (.int (1 : Int32)), .val (.double (FP.dmul (own_nd (own_mix (q1 + (-7046029254386353131 : Int64)))) (4845873199050653696 : UInt64))), .second, .val (.int (1 : Int32)), .unset]) rfl ?_
    show Steps p.tables e below (T7.setTop (mkF m 91 #[.val (.long q1), .second, .val (.ref b2), .val (.ref b4), .val (.long (own_mix (q1 + (-7046029254386353131 : Int64)))), .second, .val (.double (own_nd (own_mix (q1 + (-7046029254386353131 : Int64))))), .second, .val (.long (own_top (own_mix (q1 + (-7046029254386353131 : Int64))))), .second, .val (.int (1 : Int32)), .val (.double (FP.dmul (own_nd (own_mix (q1 + (-7046029254386353131 : Int64)))) (4845873199050653696 : UInt64))), .second, .val (.int (1 : Int32)), .unset] [])) _
    refine XS.aloadN X7.here hx rfl (hb hby at_91) rfl rfl ?_
    show Steps p.tables e below (T7.setTop (mkF m 92 #[.val (.long q1), .second, .val (.ref b2), .val (.ref b4), .val (.long (own_mix (q1 + (-7046029254386353131 : Int64)))), .second, .val (.double (own_nd (own_mix (q1 + (-7046029254386353131 : Int64))))), .second, .val (.long (own_top (own_mix (q1 + (-7046029254386353131 : Int64))))), .second, .val (.int (1 : Int32)), .val (.double (FP.dmul (own_nd (own_mix (q1 + (-7046029254386353131 : Int64)))) (4845873199050653696 : UInt64))), .second, .val (.int (1 : Int32)), .unset] [(.ref b2)])) _
    refine st8.trans ?_
    show Steps p.tables e below (T8.setTop (mkF m 95 #[.val (.long q1), .second, .val (.ref b2), .val (.ref b4), .val (.long (own_mix (q1 + (-7046029254386353131 : Int64)))), .second, .val (.double (own_nd (own_mix (q1 + (-7046029254386353131 : Int64))))), .second, .val (.long (own_top (own_mix (q1 + (-7046029254386353131 : Int64))))), .second, .val (.int (1 : Int32)), .val (.double (FP.dmul (own_nd (own_mix (q1 + (-7046029254386353131 : Int64)))) (4845873199050653696 : UInt64))), .second, .val (.int (1 : Int32)), .unset] [(.long (own_mix ((q1 + (-7046029254386353131 : Int64)) + (-7046029254386353131 : Int64))))])) _
    refine XS.aloadN X8.here hx rfl (hb hby at_95) rfl rfl ?_
    show Steps p.tables e below (T8.setTop (mkF m 96 #[.val (.long q1), .second, .val (.ref b2), .val (.ref b4), .val (.long (own_mix (q1 + (-7046029254386353131 : Int64)))), .second, .val (.double (own_nd (own_mix (q1 + (-7046029254386353131 : Int64))))), .second, .val (.long (own_top (own_mix (q1 + (-7046029254386353131 : Int64))))), .second, .val (.int (1 : Int32)), .val (.double (FP.dmul (own_nd (own_mix (q1 + (-7046029254386353131 : Int64)))) (4845873199050653696 : UInt64))), .second, .val (.int (1 : Int32)), .unset] [(.ref b4), (.long (own_mix ((q1 + (-7046029254386353131 : Int64)) + (-7046029254386353131 : Int64))))])) _
    refine st9.trans ?_
    show Steps p.tables e below (T9.setTop (mkF m 99 #[.val (.long q1), .second, .val (.ref b2), .val (.ref b4), .val (.long (own_mix (q1 + (-7046029254386353131 : Int64)))), .second, .val (.double (own_nd (own_mix (q1 + (-7046029254386353131 : Int64))))), .second, .val (.long (own_top (own_mix (q1 + (-7046029254386353131 : Int64))))), .second, .val (.int (1 : Int32)), .val (.double (FP.dmul (own_nd (own_mix (q1 + (-7046029254386353131 : Int64)))) (4845873199050653696 : UInt64))), .second, .val (.int (1 : Int32)), .unset] [(.long (own_mix ((q1 + (-7046029254386353131 : Int64)) + (-7046029254386353131 : Int64)))), (.long (own_mix ((q1 + (-7046029254386353131 : Int64)) + (-7046029254386353131 : Int64))))])) _
    refine XS.lcmp X9.here hx rfl (hb hby at_99) rfl ?_
    show Steps p.tables e below (T9.setTop (mkF m 100 #[.val (.long q1), .second, .val (.ref b2), .val (.ref b4), .val (.long (own_mix (q1 + (-7046029254386353131 : Int64)))), .second, .val (.double (own_nd (own_mix (q1 + (-7046029254386353131 : Int64))))), .second, .val (.long (own_top (own_mix (q1 + (-7046029254386353131 : Int64))))), .second, .val (.int (1 : Int32)), .val (.double (FP.dmul (own_nd (own_mix (q1 + (-7046029254386353131 : Int64)))) (4845873199050653696 : UInt64))), .second, .val (.int (1 : Int32)), .unset] [(.int (lcmpW (own_mix ((q1 + (-7046029254386353131 : Int64)) + (-7046029254386353131 : Int64))) (own_mix ((q1 + (-7046029254386353131 : Int64)) + (-7046029254386353131 : Int64)))))])) _
    refine XS.ifNo X9.here hx rfl (hb hby at_100) rfl ((if0 _ _).trans (teq ((lw_eq _ _).mpr rfl : (lcmpW (own_mix ((q1 + (-7046029254386353131 : Int64)) + (-7046029254386353131 : Int64))) (own_mix ((q1 + (-7046029254386353131 : Int64)) + (-7046029254386353131 : Int64)))) = (0 : Int32))).2) ?_
    show Steps p.tables e below (T9.setTop (mkF m 103 #[.val (.long q1), .second, .val (.ref b2), .val (.ref b4), .val (.long (own_mix (q1 + (-7046029254386353131 : Int64)))), .second, .val (.double (own_nd (own_mix (q1 + (-7046029254386353131 : Int64))))), .second, .val (.long (own_top (own_mix (q1 + (-7046029254386353131 : Int64))))), .second, .val (.int (1 : Int32)), .val (.double (FP.dmul (own_nd (own_mix (q1 + (-7046029254386353131 : Int64)))) (4845873199050653696 : UInt64))), .second, .val (.int (1 : Int32)), .unset] [])) _
    refine XS.iconst X9.here hx rfl (hb hby at_103) ?_
    show Steps p.tables e below (T9.setTop (mkF m 104 #[.val (.long q1), .second, .val (.ref b2), .val (.ref b4), .val (.long (own_mix (q1 + (-7046029254386353131 : Int64)))), .second, .val (.double (own_nd (own_mix (q1 + (-7046029254386353131 : Int64))))), .second, .val (.long (own_top (own_mix (q1 + (-7046029254386353131 : Int64))))), .second, .val (.int (1 : Int32)), .val (.double (FP.dmul (own_nd (own_mix (q1 + (-7046029254386353131 : Int64)))) (4845873199050653696 : UInt64))), .second, .val (.int (1 : Int32)), .unset] [(.int (1 : Int32))])) _
    refine XS.goto X9.here hx rfl (pc0 := 104) (pc' := 108) rfl (hb hby at_104) (by decide) (by decide) ?_
    show Steps p.tables e below (T9.setTop (mkF m 108 #[.val (.long q1), .second, .val (.ref b2), .val (.ref b4), .val (.long (own_mix (q1 + (-7046029254386353131 : Int64)))), .second, .val (.double (own_nd (own_mix (q1 + (-7046029254386353131 : Int64))))), .second, .val (.long (own_top (own_mix (q1 + (-7046029254386353131 : Int64))))), .second, .val (.int (1 : Int32)), .val (.double (FP.dmul (own_nd (own_mix (q1 + (-7046029254386353131 : Int64)))) (4845873199050653696 : UInt64))), .second, .val (.int (1 : Int32)), .unset] [(.int (1 : Int32))])) _
    refine XS.istore X9.here hx rfl (hb hby at_108) rfl (l' := #[.val (.long q1), .second, .val (.ref b2), .val (.ref b4), .val (.long (own_mix (q1 + (-7046029254386353131 : Int64)))), .second, .val (.double (own_nd (own_mix (q1 + (-7046029254386353131 : Int64))))), .second, .val (.long (own_top (own_mix (q1 + (-7046029254386353131 : Int64))))), .second, .val (.int (1 : Int32)), .val (.double (FP.dmul (own_nd (own_mix (q1 + (-7046029254386353131 : Int64)))) (4845873199050653696 : UInt64))), .second, .val (.int (1 : Int32)), .val (.int (1 : Int32))]) rfl ?_
    show Steps p.tables e below (T9.setTop (mkF m 110 #[.val (.long q1), .second, .val (.ref b2), .val (.ref b4), .val (.long (own_mix (q1 + (-7046029254386353131 : Int64)))), .second, .val (.double (own_nd (own_mix (q1 + (-7046029254386353131 : Int64))))), .second, .val (.long (own_top (own_mix (q1 + (-7046029254386353131 : Int64))))), .second, .val (.int (1 : Int32)), .val (.double (FP.dmul (own_nd (own_mix (q1 + (-7046029254386353131 : Int64)))) (4845873199050653696 : UInt64))), .second, .val (.int (1 : Int32)), .val (.int (1 : Int32))] [])) _
    refine XS.iload X9.here hx rfl (hb hby at_110) rfl ?_
    show Steps p.tables e below (T9.setTop (mkF m 112 #[.val (.long q1), .second, .val (.ref b2), .val (.ref b4), .val (.long (own_mix (q1 + (-7046029254386353131 : Int64)))), .second, .val (.double (own_nd (own_mix (q1 + (-7046029254386353131 : Int64))))), .second, .val (.long (own_top (own_mix (q1 + (-7046029254386353131 : Int64))))), .second, .val (.int (1 : Int32)), .val (.double (FP.dmul (own_nd (own_mix (q1 + (-7046029254386353131 : Int64)))) (4845873199050653696 : UInt64))), .second, .val (.int (1 : Int32)), .val (.int (1 : Int32))] [(.int (1 : Int32))])) _
    refine XS.ifNo X9.here hx rfl (hb hby at_112) rfl ((if0 _ _).trans (feq hc112).1) ?_
    show Steps p.tables e below (T9.setTop (mkF m 115 #[.val (.long q1), .second, .val (.ref b2), .val (.ref b4), .val (.long (own_mix (q1 + (-7046029254386353131 : Int64)))), .second, .val (.double (own_nd (own_mix (q1 + (-7046029254386353131 : Int64))))), .second, .val (.long (own_top (own_mix (q1 + (-7046029254386353131 : Int64))))), .second, .val (.int (1 : Int32)), .val (.double (FP.dmul (own_nd (own_mix (q1 + (-7046029254386353131 : Int64)))) (4845873199050653696 : UInt64))), .second, .val (.int (1 : Int32)), .val (.int (1 : Int32))] [])) _
    refine XS.iload X9.here hx rfl (hb hby at_115) rfl ?_
    show Steps p.tables e below (T9.setTop (mkF m 117 #[.val (.long q1), .second, .val (.ref b2), .val (.ref b4), .val (.long (own_mix (q1 + (-7046029254386353131 : Int64)))), .second, .val (.double (own_nd (own_mix (q1 + (-7046029254386353131 : Int64))))), .second, .val (.long (own_top (own_mix (q1 + (-7046029254386353131 : Int64))))), .second, .val (.int (1 : Int32)), .val (.double (FP.dmul (own_nd (own_mix (q1 + (-7046029254386353131 : Int64)))) (4845873199050653696 : UInt64))), .second, .val (.int (1 : Int32)), .val (.int (1 : Int32))] [(.int (1 : Int32))])) _
    refine XS.ifNo X9.here hx rfl (hb hby at_117) rfl ((if0 _ _).trans (feq hc117).1) ?_
    show Steps p.tables e below (T9.setTop (mkF m 120 #[.val (.long q1), .second, .val (.ref b2), .val (.ref b4), .val (.long (own_mix (q1 + (-7046029254386353131 : Int64)))), .second, .val (.double (own_nd (own_mix (q1 + (-7046029254386353131 : Int64))))), .second, .val (.long (own_top (own_mix (q1 + (-7046029254386353131 : Int64))))), .second, .val (.int (1 : Int32)), .val (.double (FP.dmul (own_nd (own_mix (q1 + (-7046029254386353131 : Int64)))) (4845873199050653696 : UInt64))), .second, .val (.int (1 : Int32)), .val (.int (1 : Int32))] [])) _
    refine XS.iload X9.here hx rfl (hb hby at_120) rfl ?_
    show Steps p.tables e below (T9.setTop (mkF m 122 #[.val (.long q1), .second, .val (.ref b2), .val (.ref b4), .val (.long (own_mix (q1 + (-7046029254386353131 : Int64)))), .second, .val (.double (own_nd (own_mix (q1 + (-7046029254386353131 : Int64))))), .second, .val (.long (own_top (own_mix (q1 + (-7046029254386353131 : Int64))))), .second, .val (.int (1 : Int32)), .val (.double (FP.dmul (own_nd (own_mix (q1 + (-7046029254386353131 : Int64)))) (4845873199050653696 : UInt64))), .second, .val (.int (1 : Int32)), .val (.int (1 : Int32))] [(.int (1 : Int32))])) _
    refine XS.ifNo X9.here hx rfl (hb hby at_122) rfl ((if0 _ _).trans (feq hc122).1) ?_
    show Steps p.tables e below (T9.setTop (mkF m 125 #[.val (.long q1), .second, .val (.ref b2), .val (.ref b4), .val (.long (own_mix (q1 + (-7046029254386353131 : Int64)))), .second, .val (.double (own_nd (own_mix (q1 + (-7046029254386353131 : Int64))))), .second, .val (.long (own_top (own_mix (q1 + (-7046029254386353131 : Int64))))), .second, .val (.int (1 : Int32)), .val (.double (FP.dmul (own_nd (own_mix (q1 + (-7046029254386353131 : Int64)))) (4845873199050653696 : UInt64))), .second, .val (.int (1 : Int32)), .val (.int (1 : Int32))] [])) _
    refine XS.iconst X9.here hx rfl (hb hby at_125) ?_
    show Steps p.tables e below (T9.setTop (mkF m 126 #[.val (.long q1), .second, .val (.ref b2), .val (.ref b4), .val (.long (own_mix (q1 + (-7046029254386353131 : Int64)))), .second, .val (.double (own_nd (own_mix (q1 + (-7046029254386353131 : Int64))))), .second, .val (.long (own_top (own_mix (q1 + (-7046029254386353131 : Int64))))), .second, .val (.int (1 : Int32)), .val (.double (FP.dmul (own_nd (own_mix (q1 + (-7046029254386353131 : Int64)))) (4845873199050653696 : UInt64))), .second, .val (.int (1 : Int32)), .val (.int (1 : Int32))] [(.int (1 : Int32))])) _
    refine XS.goto X9.here hx rfl (pc0 := 126) (pc' := 130) rfl (hb hby at_126) (by decide) (by decide) ?_
    show Steps p.tables e below (T9.setTop (mkF m 130 #[.val (.long q1), .second, .val (.ref b2), .val (.ref b4), .val (.long (own_mix (q1 + (-7046029254386353131 : Int64)))), .second, .val (.double (own_nd (own_mix (q1 + (-7046029254386353131 : Int64))))), .second, .val (.long (own_top (own_mix (q1 + (-7046029254386353131 : Int64))))), .second, .val (.int (1 : Int32)), .val (.double (FP.dmul (own_nd (own_mix (q1 + (-7046029254386353131 : Int64)))) (4845873199050653696 : UInt64))), .second, .val (.int (1 : Int32)), .val (.int (1 : Int32))] [(.int (1 : Int32))])) _
    exact retN X9 hx (t := .boolean) Bd.returns (by simp) (hb hby at_130) hr
  · show Q0 Z q1 h0 n0 _ T9.heap _
    exact ⟨rfl, N9⟩
set_option maxRecDepth 65536 in
set_option maxHeartbeats 40000000 in
theorem comes_1 {Post : Tables → Env → Array Value → State → Outcome → State → Prop} (hpost : ∀ tb e args s v u, (limb_1_1.after args s (.returned v) u = true ∧ limb_1_2.after args s (.returned v) u = true ∧ True) → FrameEnd s (.returned v) u (Jvm.fieldLocs frame_1_writes args s ++ Jvm.arrayLocs frame_1_arrays args s ++ Jvm.staticLocs frame_1_statics s) 16 128 → Post tb e args s (.returned v) u) :
    ArmFor flags0 classFile x code maxLocals ret World_1 tables_1 room_1 Calls_1 rest_1 Pre_1 Post := by
  intro l hfl _ _ p e ha hc hk s m args below hf hA hF happ hP
  obtain ⟨hcalls, hrest, hpre⟩ := hP
  obtain ⟨-, -, -, hnamed, -, -, -, hat⟩ := (Spec.applies_iff hf).mp happ
  obtain ⟨hg, hn⟩ := and_e (Cond.before_iff.mp (show (Jvm.Cond.and given_1 narrow_1).before args s = true from hpre))
  obtain ⟨g10, g11⟩ := and_e hg
  obtain ⟨w0, rfl⟩ : ∃ w0 : Value, args = #[w0] := by
    have hs : args.size = 1 := by simpa [Cond.value, given_1] using g10
    obtain ⟨L⟩ := args
    match L, hs with
    | [w0], _ => exact ⟨w0, rfl⟩
  have hw := fun d (hd : d ∈ tables_1) => atoms_spec (ws := Jvm.Cond.code x code maxLocals ret :: tables_1) hat d (List.mem_cons_of_mem _ hd)
  have hfit : Fit s := fun {y c} hc i hi => by
    obtain ⟨ha, rfl⟩ := Array.getElem?_eq_some_iff.mp hc
    have q := List.all_eq_true.mp ((Array.all_eq_true_iff_forall_mem.mp hF) _ (Array.getElem_mem ha)) i (List.mem_range.mpr hi)
    simpa [Array.getElem?_eq_getElem hi] using q
  obtain ⟨i0, ei0⟩ := isL_v g11
  obtain rfl : w0 = (.long i0) := Option.some.inj ei0
  obtain ⟨n, o, h1, h2, h3, _, L, rfl, ⟨rfl, N⟩, hq⟩ := rm0 l s _ hw tables_1 i0 s.heap s.heap.size (Nat.le_refl _) (by decide) (by decide) (by decide) p e ha hc hk s m _ below hf ((Spec.applies_iff_loose hf).mp happ).1 ⟨rfl, State.Warmed39.refl s, rfl⟩ trivial
  refine ⟨n, _, h1, h2, h3, hpost _ _ _ _ _ _ ⟨Cond.after_iff.mpr rfl, Cond.after_iff.mpr (eq_i res_at (Term.int_eval (1)) rfl), trivial⟩ ⟨hq.1, hq.2.1, (hq.2.2.sift fun y hy => Or.inr (N y hy)).mono (by decide) (by decide)⟩⟩
theorem main_1_1 : Claimed_1_1 := comes_1 fun _ _ _ _ _ _ h hF => ⟨h.1, hF⟩
theorem main_1_2 : Claimed_1_2 := comes_1 fun _ _ _ _ _ _ h hF => ⟨h.2.1, hF⟩
end Jvm.Pilot.@@N@@
namespace Jvm.Pilot.@@N@@
open Jvm Jvm.ClassFile Sem Op Lib Jvm.Free Jvm.Stand Jvm.Pilot.@@N@@.Jvm.D
/-! MADE BY PROGRAM (witnessworld.py) out of the Statement's table words and the real class files: 9 classes; the members and pool entries that the words name. The judged class is class 1, her method 1. -/
namespace start1
open Jvm.ClassFile
def u (s : String) : CpInfo := .utf8 (stringToUtf16 s)
/-- a pool by its gaps: so many unusable entries, then the entry; so many at the end -/
def gap : Nat → List CpInfo → List CpInfo
  | 0, r => r
  | n + 1, r => .unusable :: gap n r
def poolList (es : List (Nat × CpInfo)) (last : Nat) : List CpInfo := es.foldr (fun e r => gap e.1 (e.2 :: r)) (gap last [])
def pool (es : List (Nat × CpInfo)) (last : Nat) : Array CpInfo := ⟨poolList es last⟩
def fileOf (pool : Array CpInfo) (this : Nat) (attrs : Array Attribute := #[]) (ms : Array MethodInfo := #[]) (fl : Nat := 33) (sup : Nat := 0) (ifs : Array Nat := #[]) (fds : Array FieldInfo := #[]) : ClassFile where
  minorVersion := 0
  majorVersion := 65
  constantPool := pool
  accessFlags := fl
  thisClass := this
  superClass := sup
  interfaces := ifs
  fields := fds
  methods := ms
  attributes := attrs
def plain (name : String) (sup : Option ClassId) : Class where
  name := name
  kind := .ordinary
  loader := none
  accessFlags := 33
  super := sup
  interfaces := #[]
  cf := none
  fields := #[]
  methods := #[]
  instanceTypes := #[]
  staticTypes := #[]
  resolved := #[]
  callSites := []
  init := .initialized
  statics := none
  mirror := none

def pool0 : Array CpInfo := pool [(5, u "<init>"), (0, u "()V"), (1, .class_ 10), (1, u "java/lang/Object")] 113

def k0c0 : Code := { maxStack := 0, maxLocals := 1, code := object_method_1_code, exceptionTable := #[], attributes := #[] }
def k0m0 : Method := { name := "<init>", desc := "()V", sig := { parameters := [], returnType := none }, accessFlags := 1, code := some k0c0 }
/-- java/lang/Object -/
def k0 : Class := { plain "java/lang/Object" none with
  accessFlags := 33
  interfaces := #[]
  cf := some (fileOf pool0 8 #[] #[{ accessFlags := 1, nameIndex := 5, descriptorIndex := 6, attributes := #[] }] 33 0 #[] #[])
  fields := #[]
  methods := #[k0m0]
  instanceTypes := #[]
  staticTypes := #[]
  resolved := Array.replicate 124 none
  statics := none }

def pool1 : Array CpInfo := pool [(2, .class_ 4), (1, u "java/lang/Object"), (0, u "<init>"), (0, u "()V"), (0, .class_ 8), (0, u "com/example/ticks_to_order/tickstoorder/simulation/SplitMix64"), (0, .methodref 7 10), (0, .nameAndType 5 11), (0, u "(J)V"), (0, .methodref 7 13), (0, .nameAndType 14 15), (0, u "nextLong"), (0, u "()J"), (0, .methodref 7 17), (0, .nameAndType 18 19), (0, u "nextDouble"), (0, u "()D"), (0, .double 4845873199050653696), (1, .class_ 23), (0, u "com/example/ticks_to_order/tickstoorder/simulation/SplitMix64NextDoublePinLaw"), (2, u "law"), (0, u "(J)Z")] 3

def k1m0 : Method := { name := "<init>", desc := "()V", sig := { parameters := [], returnType := none }, accessFlags := 1, code := none }
def k1c1 : Code := { maxStack := 4, maxLocals := 15, code := code, exceptionTable := #[], attributes := #[] }
def k1m1 : Method := { name := "law", desc := "(J)Z", sig := { parameters := [.long], returnType := some .boolean }, accessFlags := 9, code := some k1c1 }
/-- com/example/ticks_to_order/tickstoorder/simulation/SplitMix64NextDoublePinLaw -/
def k1 : Class := { plain "com/example/ticks_to_order/tickstoorder/simulation/SplitMix64NextDoublePinLaw" (some 0) with
  accessFlags := 49
  interfaces := #[]
  cf := some (fileOf pool1 22 #[] #[{ accessFlags := 1, nameIndex := 5, descriptorIndex := 6, attributes := #[] }, { accessFlags := 9, nameIndex := 26, descriptorIndex := 27, attributes := #[] }] 49 2 #[] #[])
  fields := #[]
  methods := #[k1m0, k1m1]
  instanceTypes := #[]
  staticTypes := #[]
  resolved := Array.replicate 31 none
  statics := none }

def pool2 : Array CpInfo := pool [(1, .methodref 2 3), (0, .class_ 4), (0, .nameAndType 5 6), (0, u "java/lang/Object"), (0, u "<init>"), (0, u "()V"), (0, .fieldref 8 9), (0, .class_ 10), (0, .nameAndType 11 12), (0, u "com/example/ticks_to_order/tickstoorder/simulation/SplitMix64"), (0, u "_state"), (0, u "J"), (0, .long 11400714819323198485), (1, .long 13787848793156543929), (1, .long 10723151780598845931), (1, .methodref 8 20), (0, .nameAndType 21 22), (0, u "nextLong"), (0, u "()J"), (0, .double 4368491638549381120), (1, u "GAMMA"), (1, u "(J)V"), (2, u "nextDouble"), (0, u "()D")] 2

def k2c0 : Code := { maxStack := 3, maxLocals := 3, code := prog_55_method_1_code, exceptionTable := #[], attributes := #[] }
def k2m0 : Method := { name := "<init>", desc := "(J)V", sig := { parameters := [.long], returnType := none }, accessFlags := 0, code := some k2c0 }
def k2c1 : Code := { maxStack := 5, maxLocals := 3, code := prog_55_method_2_code, exceptionTable := #[], attributes := #[] }
def k2m1 : Method := { name := "nextLong", desc := "()J", sig := { parameters := [], returnType := some .long }, accessFlags := 0, code := some k2c1 }
def k2c2 : Code := { maxStack := 4, maxLocals := 1, code := prog_55_method_3_code, exceptionTable := #[], attributes := #[] }
def k2m2 : Method := { name := "nextDouble", desc := "()D", sig := { parameters := [], returnType := some .double }, accessFlags := 0, code := some k2c2 }
/-- com/example/ticks_to_order/tickstoorder/simulation/SplitMix64 -/
def k2 : Class := { plain "com/example/ticks_to_order/tickstoorder/simulation/SplitMix64" (some 0) with
  accessFlags := 32
  interfaces := #[]
  cf := some (fileOf pool2 8 #[] #[{ accessFlags := 0, nameIndex := 5, descriptorIndex := 27, attributes := #[] }, { accessFlags := 0, nameIndex := 21, descriptorIndex := 22, attributes := #[] }, { accessFlags := 0, nameIndex := 30, descriptorIndex := 31, attributes := #[] }] 32 2 #[] #[{ accessFlags := 26, nameIndex := 25, descriptorIndex := 12, attributes := #[] }, { accessFlags := 2, nameIndex := 11, descriptorIndex := 12, attributes := #[] }])
  fields := #[{ name := "GAMMA", type := .long, accessFlags := 26, slot := 0, constantValue := 0 }, { name := "_state", type := .long, accessFlags := 2, slot := 0, constantValue := 0 }]
  methods := #[k2m0, k2m1, k2m2]
  instanceTypes := #[.long]
  staticTypes := #[.long]
  resolved := Array.replicate 34 none
  statics := none }

def pool3 : Array CpInfo := pool [(1, u "java/lang/Cloneable"), (0, .class_ 1), (0, u "java/lang/Object"), (0, .class_ 3)] 3

/-- java/lang/Cloneable -/
def k3 : Class := { plain "java/lang/Cloneable" (some 0) with
  accessFlags := 1537
  interfaces := #[]
  cf := some (fileOf pool3 2 #[] #[] 1537 4 #[] #[])
  fields := #[]
  methods := #[]
  instanceTypes := #[]
  staticTypes := #[]
  resolved := Array.replicate 8 none
  statics := none }

def pool4 : Array CpInfo := pool [(1, u "java/io/Serializable"), (0, .class_ 1), (0, u "java/lang/Object"), (0, .class_ 3)] 3

/-- java/io/Serializable -/
def k4 : Class := { plain "java/io/Serializable" (some 0) with
  accessFlags := 1537
  interfaces := #[]
  cf := some (fileOf pool4 2 #[] #[] 1537 4 #[] #[])
  fields := #[]
  methods := #[]
  instanceTypes := #[]
  staticTypes := #[]
  resolved := Array.replicate 8 none
  statics := none }

/-- the primitive byte -/
def k5 : Class := { plain "byte" none with kind := .primitive 'B', accessFlags := 0x411 }
/-- [B -/
def k6 : Class := { plain "[B" (some 0) with kind := .array 5 .byte, interfaces := #[3, 4], accessFlags := 1041 }

/-- the primitive int -/
def k7 : Class := { plain "int" none with kind := .primitive 'I', accessFlags := 0x411 }
/-- [I -/
def k8 : Class := { plain "[I" (some 0) with kind := .array 7 .int, interfaces := #[3, 4], accessFlags := 1041 }

def heap : Heap := #[]
def classes : Array Class := #[k0, k1, k2, k3, k4, k5, k6, k7, k8]
def interned : List (Array UInt16 × Addr) := []
def slotsUsed : Nat := 0
def theMethod : MethodId := ⟨1, 1⟩
def args0 : Array Value := #[.long 5]
def aboutOver (below : List Frame) : State where
  vm := { classes := classes, interned := interned.toArray }
  heap := heap
  slotsUsed := slotsUsed
  threads := #[{ frames := .invoking theMethod args0 :: below }]
def below0 : List Frame := [.native { method := ⟨0, 0⟩, args := #[] }]
def about1 : State := aboutOver below0
def p0 : Program := .bare "" "" ""
def e0 : Env := launch0.env 0 0 0
theorem w_frames : about1.frames = Frame.invoking theMethod args0 :: below0 := rfl
set_option maxRecDepth 65536 in
theorem w_args : argsFit about1.vm theMethod args0 = true := by decide +kernel
set_option maxRecDepth 65536 in
theorem w_heap : heapFits about1 = true := by decide +kernel
set_option maxRecDepth 65536 in
theorem w_runnable : about1.curStatus? = some .runnable := by decide +kernel
set_option maxRecDepth 65536 in
theorem w_alone : about1.alone = true := by decide +kernel
set_option maxRecDepth 65536 in
theorem w_named : about1.methodNamed? x = some theMethod := by decide +kernel
set_option maxRecDepth 65536 in
theorem w_hears : about1.hears theMethod below0 = true := by decide +kernel
set_option maxRecDepth 65536 in
theorem w_ripe : about1.ripe theMethod args0 below0 = true := by decide +kernel
theorem w_running : about1.status = .running := rfl
set_option maxRecDepth 65536 in
theorem w_room : about1.hasRoom e0.platform room_1 = true :=
  launch0.hasRoom_least _ room_1 (by decide +kernel) (by decide +kernel) (by decide +kernel) (by decide +kernel) (by decide +kernel) (by decide +kernel)
theorem allAtoms_all (ts : List Jvm.Cond) (a : Array Jvm.Value) (st : Jvm.State) : (allAtoms ts).before a st = ts.all (fun c => c.before a st) := by
  induction ts with
  | nil => rfl
  | cons c t ih =>
    show (Jvm.Cond.and c (allAtoms t)).before a st = _
    rw [Jvm.Cond.before_and, ih, List.all_cons]
def words1 : List Jvm.Cond := Jvm.Cond.code x code maxLocals ret :: tables_1
/-- a 'code' word, met by the world's own term for the bytes: nothing is compared byte by byte -/
theorem code_word {y : MethodName} {bytes : ByteArray} {mx : Nat} {rt : Option FieldType} {a : Array Value} {s : State} {m : MethodId} {meth : Method} {c : Code} (h1 : s.methodNamed? y = some m) (h2 : s.vm.method? m = some meth) (h3 : meth.code = some c) (h4 : c.code = bytes)
    (h5 : (c.maxLocals == mx && c.exceptionTable.isEmpty && decide (c.maxStack ≤ mostOperands) && decide (meth.sig.returnType = rt) && !meth.locks && decide (parseMethodDescriptor y.desc = some meth.sig)) = true) : (Jvm.Cond.code y bytes mx rt).before a s = true := by
  simp only [Bool.and_eq_true, beq_iff_eq, Bool.not_eq_true', decide_eq_true_eq] at h5
  obtain ⟨⟨⟨⟨⟨g1, g2⟩, g3⟩, g4⟩, g5⟩, g6⟩ := h5
  simp [Cond.before, Cond.holds, Cond.value, h1, h2, h3, h4, g1, g2, g3, g4, g5, g6]
def isCode : Jvm.Cond → Bool
  | .code _ _ _ _ => true
  | _ => false
theorem all_split {L : List Jvm.Cond} {P : Jvm.Cond → Bool} (h1 : L.all (fun c => isCode c || P c) = true) (h2 : ∀ c ∈ L.filter isCode, P c = true) : L.all P = true := by
  refine List.all_eq_true.mpr fun c hc => ?_
  have h := List.all_eq_true.mp h1 c hc
  rcases Bool.eq_false_or_eq_true (isCode c) with hi | hi
  · exact h2 c (List.mem_filter.mpr ⟨hc, hi⟩)
  · simpa [hi] using h
set_option maxRecDepth 65536 in
theorem w_c0 : (Jvm.Cond.code x code maxLocals ret).before args0 about1 = true := code_word (m := ⟨1, 1⟩) (meth := k1m1) (c := k1c1) (by decide +kernel) rfl rfl rfl (by decide +kernel)
set_option maxRecDepth 65536 in
theorem w_c1 : (Jvm.Cond.code ({ cls := "com/example/ticks_to_order/tickstoorder/simulation/SplitMix64", name := "<init>", desc := "(J)V" } : Jvm.MethodName) prog_55_method_1_code (3 : Nat) (Option.none : Option Jvm.ClassFile.FieldType)).before args0 about1 = true := code_word (m := ⟨2, 0⟩) (meth := k2m0) (c := k2c0) (by decide +kernel) rfl rfl rfl (by decide +kernel)
set_option maxRecDepth 65536 in
theorem w_c2 : (Jvm.Cond.code ({ cls := "java/lang/Object", name := "<init>", desc := "()V" } : Jvm.MethodName) object_method_1_code (1 : Nat) (Option.none : Option Jvm.ClassFile.FieldType)).before args0 about1 = true := code_word (m := ⟨0, 0⟩) (meth := k0m0) (c := k0c0) (by decide +kernel) rfl rfl rfl (by decide +kernel)
set_option maxRecDepth 65536 in
theorem w_c3 : (Jvm.Cond.code ({ cls := "com/example/ticks_to_order/tickstoorder/simulation/SplitMix64", name := "nextLong", desc := "()J" } : Jvm.MethodName) prog_55_method_2_code (3 : Nat) (Option.some Jvm.ClassFile.FieldType.long)).before args0 about1 = true := code_word (m := ⟨2, 1⟩) (meth := k2m1) (c := k2c1) (by decide +kernel) rfl rfl rfl (by decide +kernel)
set_option maxRecDepth 65536 in
theorem w_c4 : (Jvm.Cond.code ({ cls := "com/example/ticks_to_order/tickstoorder/simulation/SplitMix64", name := "nextDouble", desc := "()D" } : Jvm.MethodName) prog_55_method_3_code (1 : Nat) (Option.some Jvm.ClassFile.FieldType.double)).before args0 about1 = true := code_word (m := ⟨2, 2⟩) (meth := k2m2) (c := k2c2) (by decide +kernel) rfl rfl rfl (by decide +kernel)
def codes1 : List Jvm.Cond := [Jvm.Cond.code x code maxLocals ret, Jvm.Cond.code ({ cls := "com/example/ticks_to_order/tickstoorder/simulation/SplitMix64", name := "<init>", desc := "(J)V" } : Jvm.MethodName) prog_55_method_1_code (3 : Nat) (Option.none : Option Jvm.ClassFile.FieldType), Jvm.Cond.code ({ cls := "java/lang/Object", name := "<init>", desc := "()V" } : Jvm.MethodName) object_method_1_code (1 : Nat) (Option.none : Option Jvm.ClassFile.FieldType), Jvm.Cond.code ({ cls := "com/example/ticks_to_order/tickstoorder/simulation/SplitMix64", name := "nextLong", desc := "()J" } : Jvm.MethodName) prog_55_method_2_code (3 : Nat) (Option.some Jvm.ClassFile.FieldType.long), Jvm.Cond.code ({ cls := "com/example/ticks_to_order/tickstoorder/simulation/SplitMix64", name := "nextDouble", desc := "()D" } : Jvm.MethodName) prog_55_method_3_code (1 : Nat) (Option.some Jvm.ClassFile.FieldType.double)]
set_option maxRecDepth 65536 in
theorem codes_eq : words1.filter isCode = codes1 := rfl
theorem w_codes : ∀ c ∈ words1.filter isCode, c.before args0 about1 = true := by
  rw [codes_eq]
  intro c hc
  simp only [codes1, List.mem_cons, List.not_mem_nil, or_false] at hc
  rcases hc with rfl | rfl | rfl | rfl | rfl
  · exact w_c0
  · exact w_c1
  · exact w_c2
  · exact w_c3
  · exact w_c4
set_option maxRecDepth 65536 in
theorem w_t1 : (words1.take 24).all (fun c => isCode c || c.before args0 about1) = true := by decide +kernel
set_option maxRecDepth 65536 in
theorem w_t2 : (words1.drop 24).all (fun c => isCode c || c.before args0 about1) = true := by decide +kernel
theorem w_tables : (allAtoms (Jvm.Cond.code x code maxLocals ret :: tables_1)).before args0 about1 = true := by
  rw [allAtoms_all]
  show words1.all (fun c => c.before args0 about1) = true
  refine all_split ?_ w_codes
  rw [← List.take_append_drop 24 words1, List.all_append, w_t1, w_t2]
  rfl
set_option maxRecDepth 65536 in
theorem w_case : (Jvm.Cond.and given_1 narrow_1).before args0 about1 = true := by decide +kernel
theorem w_applies : (headSpec (Jvm.Cond.code x code maxLocals ret :: tables_1) room_1).applies x e0.platform about1 = true :=
  (Spec.applies_iff w_frames).mpr ⟨w_running, w_runnable, w_alone, w_named, w_hears, w_ripe, w_room, w_tables⟩
theorem atStart : AtStart classFile x code maxLocals ret World_1 tables_1 room_1 Calls_1 rest_1 Pre_1 launch0 p0 e0 about1 theMethod args0 below0 :=
  ⟨lists_1, trivial, launch0.admits_env _ _ _, launch0.least_env, fairChoices_fair.cas, fairChoices_fair.clock, w_frames, w_args, w_heap, w_applies, trivial, trivial, w_case⟩
end start1
theorem witness_1 : WitnessClaimed_1 := ⟨start1.p0, start1.e0, start1.about1, start1.theMethod, start1.args0, start1.below0, start1.atStart⟩
end Jvm.Pilot.@@N@@
