import JvmDerived
import JvmDerived.Pilot.@@N@@Statement
import JvmDerived.Pilot.@@N@@Code
set_option linter.unusedVariables false
set_option linter.unusedSimpArgs false
@@BLOCK:NumsL.lean.txt@@
namespace Jvm.RoadKit
open Sem ClassFile Op Lib Jvm.Stand Jvm.Free Jvm.LawKit
section New
variable {p : Program} {l : Launch} {e : Env} {R : Room} {s : State} {m : MethodId} {args : Array Value} {below : List Frame} {meth : Method} {c : Code} {T : State} {locs : List Loc} {cells slots : Nat}
theorem retI (X : Stand p l e R s m args below meth c T locs cells slots) (hx : p.tables.exec = Jvm.exec) {pc : Nat} {Ls : Array Slot} {z : Int32} {rest : List Value} (hret : meth.sig.returnType = some .int) (hd : decode c.code pc = .ok (.ireturn, 1)) {fs : List Frame}
    (hl : ∀ (f : JFrame) (acts : List Action), f.method = m → f.locked = none → f.entered = [] → (doReturn e (T.setTop f) acts (some (.int z))).1 = T.setFrames fs) : Steps p.tables e below (T.setTop (mkF m pc Ls (.int z :: rest))) (T.setFrames fs) := by
  have hm' : T.vm.method? m = some meth := X.method'
  have hn : narrow .int (.int z) = .int z := rfl
  show Steps p.tables e below (T.setTop { method := m, pc := pc, locals := Ls, stack := _ :: rest, locked := none }) _
  jvm_step X.here [X.here.top, hx, hd, hm', hret, hn]
  first | (intro acts; rw [hl _ acts rfl rfl rfl]) | rw [hl _ _ rfl rfl rfl]
  exact Steps.refl _
end New
end Jvm.RoadKit
namespace Jvm.Pilot.@@N@@
open Jvm Jvm.ClassFile Sem Op Lib Jvm.Free Jvm.Stand Jvm.LawKit Jvm.RoadKit Bundle Jvm.Pilot.@@N@@.Jvm.D
/-! a double that is n / 2^k, exactly: in units of 2^-4000 -/
def own_B : Nat := 4000
theorem own_pl (k : Nat) : (0 : Int) < ((2 ^ k : Nat) : Int) := Int.natCast_pos.mpr (Nat.two_pow_pos k)
theorem own_pp (k : Nat) : ((2 ^ k : Nat) : Int) ≠ 0 := Int.ne_of_gt (own_pl k)
def own_M (c : Nat) (q : Int) : Nat := c * 2 ^ (q + (own_B : Int)).toNat
def own_D (k : Nat) (n : Int) (x : UInt64) : Prop := ∃ s c q, FP.Core.val64 x = .fin s c q ∧ FP.Core.signed s (own_M c q) = n * ((2 ^ (own_B - k) : Nat) : Int)
theorem own_qmin : FP.Core.b64.qmin = -1074 := by decide
theorem own_qmax : FP.Core.b64.qmax = 971 := by decide
theorem own_tails : FP.Core.b64.tails = 2 ^ 52 := by decide
theorem own_D_fin {k : Nat} {n : Int} {x : UInt64} (h : own_D k n x) : FP.Core.val64 x ≠ .nan := by
  obtain ⟨s, c, q, e, -⟩ := h
  rw [e]; simp
theorem own_D_nn {k : Nat} {n : Int} {x : UInt64} (h : own_D k n x) : Jvm.Free.Fl.NoNaN64 x := Jvm.Free.Fl.val64_no.mpr (own_D_fin h)
theorem own_fits {x : UInt64} {s : Bool} {c : Nat} {q : Int} (e : FP.Core.val64 x = .fin s c q) : c < 2 ^ 53 ∧ -1074 ≤ q ∧ q ≤ 971 := by
  have h := FP.Core.val64_fits x
  rw [e] at h
  obtain ⟨h1, h2, h3, -⟩ := h
  rw [own_qmin] at h2
  rw [own_qmax] at h3
  exact ⟨h1, h2, h3⟩
/-- what stands for n / 2^k as a sign and a magnitude -/
theorem own_abs {s : Bool} {A : Nat} {n : Int} {P : Nat} (h : FP.Core.signed s A = n * ((P : Nat) : Int)) : A = n.natAbs * P := by
  have := congrArg Int.natAbs h
  rw [FP.Core.natAbs_signed, Int.natAbs_mul, Int.natAbs_natCast] at this
  exact this
/-- the same number, written with n and 2^-k -/
theorem own_write {c N k : Nat} {q : Int} (hq : -4000 ≤ q) (hk : k ≤ 4000) (h : own_M c q = N * 2 ^ (own_B - k)) : c * 1 * 2 ^ (q - (-(k : Int))).toNat = N * 1 * 2 ^ (-(k : Int) - q).toNat := by
  have hB : own_B = 4000 := rfl
  unfold own_M at h
  rw [Nat.mul_one, Nat.mul_one]
  by_cases hc : -(k : Int) ≤ q
  · have e1 : (q + (own_B : Int)).toNat = (q - (-(k : Int))).toNat + (own_B - k) := by omega
    have e2 : (-(k : Int) - q).toNat = 0 := by omega
    rw [e1, Nat.pow_add, ← Nat.mul_assoc] at h
    rw [e2, Nat.pow_zero, Nat.mul_one]
    exact Nat.eq_of_mul_eq_mul_right (Nat.two_pow_pos _) h
  · have e1 : own_B - k = (-(k : Int) - q).toNat + (q + (own_B : Int)).toNat := by omega
    have e2 : (q - (-(k : Int))).toNat = 0 := by omega
    rw [e1, Nat.pow_add, ← Nat.mul_assoc] at h
    rw [e2, Nat.pow_zero, Nat.mul_one]
    exact Nat.eq_of_mul_eq_mul_right (Nat.two_pow_pos _) h
/-- N / 2^k rounds to itself -/
theorem own_rnd {k N : Nat} (hk : k ≤ 900) (hN : N ≤ 2 ^ 53) (s : Bool) : ∃ c q, FP.Core.roundRatio FP.Core.b64 s N 1 (-(k : Int)) = .fin s c q ∧ own_M c q = N * 2 ^ (own_B - k) := by
  have hB : own_B = 4000 := rfl
  by_cases h0 : N = 0
  · subst h0
    exact ⟨0, FP.Core.b64.qmin, rfl, by rw [own_M, Nat.zero_mul, Nat.zero_mul]⟩
  · obtain ⟨c, q, ⟨f1, f2, f3, f4⟩, hv⟩ := FP.Core.natFit FP.Core.good_b64 FP.Core.wide_b64 s (n := N) hN
    have f1' : c < 2 ^ 53 := f1
    rw [own_qmin] at f2 f4
    rw [own_qmax] at f3
    rw [own_tails] at f4
    have hq2 : -52 ≤ q := by
      refine Int.not_lt.mp fun hlt => ?_
      have e1 : (q - 0).toNat = 0 := by omega
      have e2 : 53 ≤ (0 - q).toNat := by omega
      rw [e1, Nat.pow_zero, Nat.mul_one, Nat.mul_one] at hv
      have e3 : 2 ^ 53 ≤ 2 ^ (0 - q).toNat := Nat.pow_le_pow_right (by decide) e2
      have e4 : 1 * 2 ^ (0 - q).toNat ≤ N * 2 ^ (0 - q).toNat := Nat.mul_le_mul_right _ (by omega)
      rw [hv, Nat.one_mul] at e4
      exact absurd (Nat.lt_of_lt_of_le f1' e3) (Nat.not_lt.mpr e4)
    have f4' : 2 ^ 52 ≤ c := by
      rcases f4 with f4 | f4
      · omega
      · exact f4
    have hfit : FP.Core.fits FP.Core.b64 (.fin s c (q - (k : Int))) := ⟨f1, by rw [own_qmin]; omega, by rw [own_qmax]; omega, Or.inr (by rw [own_tails]; exact f4')⟩
    refine ⟨c, q - (k : Int), FP.Core.roundRatio_exact FP.Core.good_b64 (by decide) hfit ?_, ?_⟩
    · rw [show (-(k : Int) - (q - (k : Int))).toNat = (0 - q).toNat by omega, show (q - (k : Int) - -(k : Int)).toNat = (q - 0).toNat by omega]
      exact hv
    · unfold own_M
      rw [Nat.mul_one] at hv
      by_cases hc : 0 ≤ q
      · rw [show (0 - q).toNat = 0 by omega, Nat.pow_zero, Nat.mul_one, show (q - 0).toNat = q.toNat by omega] at hv
        rw [show (q - (k : Int) + (own_B : Int)).toNat = q.toNat + (own_B - k) by omega, Nat.pow_add, ← Nat.mul_assoc, ← hv]
      · rw [show (q - 0).toNat = 0 by omega, Nat.pow_zero, Nat.mul_one] at hv
        rw [← hv, Nat.mul_assoc, ← Nat.pow_add]
        congr 2
        omega
theorem own_round {k : Nat} (hk : k ≤ 900) {n : Int} (hn : n.natAbs ≤ 2 ^ 53) {s : Bool} {c : Nat} {q : Int} (hq : -4000 ≤ q) (h : FP.Core.signed s (own_M c q) = n * ((2 ^ (own_B - k) : Nat) : Int)) :
    ∃ c' q', FP.Core.roundRatio FP.Core.b64 s c 1 q = .fin s c' q' ∧ FP.Core.signed s (own_M c' q') = n * ((2 ^ (own_B - k) : Nat) : Int) := by
  have hB : own_B = 4000 := rfl
  have ha := own_abs h
  obtain ⟨c', q', e1, e2⟩ := own_rnd hk hn s
  refine ⟨c', q', ?_, ?_⟩
  · rw [← e1]
    exact FP.Core.roundRatio_congr (by decide) (by decide) (own_write hq (by omega) ha)
  · rw [e2, ← ha]; exact h
theorem own_D_l2d {a : Int64} (h : B53 a) : own_D 0 a.toInt (FP.l2d a) := by
  have hB : own_B = 4000 := rfl
  obtain ⟨c, q, e⟩ := FP.Core.l2d_shape a
  have hw := FP.Core.l2d_whole h
  rw [e] at hw
  have hf := own_fits e
  refine ⟨_, c, q, e, ?_⟩
  have hu := FP.Core.whole_units hw (e := -(own_B : Int)) (by omega)
  unfold own_M
  unfold FP.Core.inUnits at hu
  rw [show (q - -(own_B : Int)).toNat = (q + (own_B : Int)).toNat by omega] at hu
  simpa using hu
theorem own_sum {k : Nat} (hk : k ≤ 900) {n m : Int} (hn : (n + m).natAbs ≤ 2 ^ 53) {s t : Bool} {c d : Nat} {q r : Int} (hq : -1074 ≤ q) (hr : -1074 ≤ r) (h1 : FP.Core.signed s (own_M c q) = n * ((2 ^ (own_B - k) : Nat) : Int)) (h2 : FP.Core.signed t (own_M d r) = m * ((2 ^ (own_B - k) : Nat) : Int)) :
    ∃ s' c' q', FP.Core.round FP.Core.b64 (FP.Core.exactSum (.fin s c q) (.fin t d r)) = .fin s' c' q' ∧ FP.Core.signed s' (own_M c' q') = (n + m) * ((2 ^ (own_B - k) : Nat) : Int) := by
  have hB : own_B = 4000 := rfl
  have hm : -4000 ≤ min q r := by omega
  have key : FP.Core.signed (FP.Core.sumSign s t (FP.Core.sumUnits s c q t d r (min q r))) (own_M (FP.Core.sumUnits s c q t d r (min q r)).natAbs (min q r)) = (n + m) * ((2 ^ (own_B - k) : Nat) : Int) := by
    unfold own_M
    rw [FP.Core.signed_mul, FP.Core.signed_sumSign]
    unfold FP.Core.sumUnits
    rw [Int.add_mul, ← FP.Core.signed_mul, ← FP.Core.signed_mul]
    unfold FP.Core.inUnits
    rw [Nat.mul_assoc, ← Nat.pow_add, Nat.mul_assoc, ← Nat.pow_add, show (q - min q r).toNat + (min q r + (own_B : Int)).toNat = (q + (own_B : Int)).toNat by omega, show (r - min q r).toNat + (min q r + (own_B : Int)).toNat = (r + (own_B : Int)).toNat by omega, Int.add_mul]
    unfold own_M at h1 h2
    rw [h1, h2]
  obtain ⟨c', q', e1, e2⟩ := own_round hk hn hm key
  exact ⟨_, c', q', e1, e2⟩
theorem own_D_add {k : Nat} {n m : Int} {x y : UInt64} (hx : own_D k n x) (hy : own_D k m y) (hk : k ≤ 900) (hn : (n + m).natAbs ≤ 2 ^ 53) : own_D k (n + m) (FP.dadd x y) := by
  have hB : own_B = 4000 := rfl
  obtain ⟨s, c, q, e, h⟩ := hx
  obtain ⟨t, d, r, e', h'⟩ := hy
  obtain ⟨s', c', q', g1, g2⟩ := own_sum hk hn (own_fits e).2.1 (own_fits e').2.1 h h'
  exact ⟨s', c', q', by rw [FP.Core.val64_dadd, e, e', g1], g2⟩
theorem own_D_sub {k : Nat} {n m : Int} {x y : UInt64} (hx : own_D k n x) (hy : own_D k m y) (hk : k ≤ 900) (hn : (n - m).natAbs ≤ 2 ^ 53) : own_D k (n - m) (FP.dsub x y) := by
  have hB : own_B = 4000 := rfl
  obtain ⟨s, c, q, e, h⟩ := hx
  obtain ⟨t, d, r, e', h'⟩ := hy
  have h2 : FP.Core.signed (!t) (own_M d r) = (-m) * ((2 ^ (own_B - k) : Nat) : Int) := by
    rw [Int.neg_mul, ← h']
    cases t <;> simp [FP.Core.signed]
  rw [Int.sub_eq_add_neg] at hn ⊢
  obtain ⟨s', c', q', g1, g2⟩ := own_sum hk hn (own_fits e).2.1 (own_fits e').2.1 h h2
  exact ⟨s', c', q', by rw [FP.Core.val64_dsub, e, e']; exact g1, g2⟩
theorem own_D_mul {k j : Nat} {n m : Int} {x y : UInt64} (hx : own_D k n x) (hy : own_D j m y) (hk : k + j ≤ 900) (hn : (n * m).natAbs ≤ 2 ^ 53) : own_D (k + j) (n * m) (FP.dmul x y) := by
  have hB : own_B = 4000 := rfl
  obtain ⟨s, c, q, e, h⟩ := hx
  obtain ⟨t, d, r, e', h'⟩ := hy
  have hq := (own_fits e).2.1
  have hr := (own_fits e').2.1
  have key : FP.Core.signed (s != t) (own_M (c * d) (q + r)) = (n * m) * ((2 ^ (own_B - (k + j)) : Nat) : Int) := by
    have p : ((2 ^ own_B : Nat) : Int) ≠ 0 := own_pp _
    refine Int.eq_of_mul_eq_mul_right p ?_
    rw [← FP.Core.signed_mul]
    have e1 : own_M (c * d) (q + r) * 2 ^ own_B = own_M c q * own_M d r := by
      unfold own_M
      rw [Nat.mul_assoc, ← Nat.pow_add, show (q + r + (own_B : Int)).toNat + own_B = (q + (own_B : Int)).toNat + (r + (own_B : Int)).toNat by omega, Nat.pow_add, Nat.mul_mul_mul_comm]
    rw [e1, FP.Core.signed_xor, h, h']
    have e2 : (2 ^ (own_B - k) : Nat) * 2 ^ (own_B - j) = 2 ^ (own_B - (k + j)) * 2 ^ own_B := by
      rw [← Nat.pow_add, ← Nat.pow_add, show own_B - k + (own_B - j) = own_B - (k + j) + own_B by omega]
    have e3 : ((2 ^ (own_B - k) : Nat) : Int) * ((2 ^ (own_B - j) : Nat) : Int) = ((2 ^ (own_B - (k + j)) : Nat) : Int) * ((2 ^ own_B : Nat) : Int) := by
      rw [← Int.natCast_mul, ← Int.natCast_mul, e2]
    generalize ((2 ^ (own_B - k) : Nat) : Int) = P at e3 ⊢
    generalize ((2 ^ (own_B - j) : Nat) : Int) = Q at e3 ⊢
    rw [Int.mul_assoc (n * m), ← e3]
    rw [Int.mul_assoc, Int.mul_assoc, Int.mul_left_comm P m Q]
  obtain ⟨c', q', g1, g2⟩ := own_round hk hn (by omega) key
  exact ⟨_, c', q', by rw [FP.Core.val64_dmul, e, e']; exact g1, g2⟩
/-- a division by 2^i -/
theorem own_D_div {k i : Nat} {n : Int} {x y : UInt64} {r : Int} (hx : own_D k n x) (hy : FP.Core.val64 y = .fin false (2 ^ 52) r) (hr : r = (i : Int) - 52) (hk : k + i ≤ 900) (hn : n.natAbs ≤ 2 ^ 53) : own_D (k + i) n (FP.ddiv x y) := by
  have hB : own_B = 4000 := rfl
  obtain ⟨s, c, q, e, h⟩ := hx
  have hf := own_fits e
  have e1 : FP.Core.roundRatio FP.Core.b64 (s != false) c (2 ^ 52) (q - r) = FP.Core.roundRatio FP.Core.b64 s c 1 (q - (i : Int)) := by
    rw [show (s != false) = s by cases s <;> rfl]
    refine FP.Core.roundRatio_congr (by decide) (by decide) ?_
    rw [show (q - r - (q - (i : Int))).toNat = 52 by omega, show (q - (i : Int) - (q - r)).toNat = 0 by omega, Nat.mul_one, Nat.pow_zero, Nat.mul_one]
  have key : FP.Core.signed s (own_M c (q - (i : Int))) = n * ((2 ^ (own_B - (k + i)) : Nat) : Int) := by
    have p : ((2 ^ i : Nat) : Int) ≠ 0 := own_pp _
    refine Int.eq_of_mul_eq_mul_right p ?_
    rw [← FP.Core.signed_mul]
    have e2 : own_M c (q - (i : Int)) * 2 ^ i = own_M c q := by
      unfold own_M
      rw [Nat.mul_assoc, ← Nat.pow_add, show (q - (i : Int) + (own_B : Int)).toNat + i = (q + (own_B : Int)).toNat by omega]
    have e3 : ((2 ^ (own_B - (k + i)) : Nat) : Int) * ((2 ^ i : Nat) : Int) = ((2 ^ (own_B - k) : Nat) : Int) := by
      rw [← Int.natCast_mul, ← Nat.pow_add, show own_B - (k + i) + i = own_B - k by omega]
    rw [e2, h, Int.mul_assoc, e3]
  obtain ⟨c', q', g1, g2⟩ := own_round hk hn (by omega) key
  refine ⟨s, c', q', ?_, g2⟩
  rw [FP.Core.val64_ddiv, e, hy]
  show (if (2 ^ 52 : Nat) = 0 then (if c = 0 then FP.Core.Datum.nan else FP.Core.Datum.inf (s != false)) else FP.Core.roundRatio FP.Core.b64 (s != false) c (2 ^ 52) (q - r)) = _
  rw [if_neg (by decide), e1, g1]
theorem own_zv {k : Nat} (hk : k ≤ 900) {n : Int} {x : UInt64} (hx : own_D k n x) : FP.Core.zval FP.Core.b64 (FP.Core.val64 x) * ((2 ^ (own_B - 1074) : Nat) : Int) = n * ((2 ^ (own_B - k) : Nat) : Int) := by
  have hB : own_B = 4000 := rfl
  obtain ⟨s, c, q, e, h⟩ := hx
  have hf := own_fits e
  rw [e, ← h]
  show FP.Core.signed s (FP.Core.inUnits c q FP.Core.b64.qmin) * _ = _
  rw [← FP.Core.signed_mul, own_qmin]
  unfold FP.Core.inUnits own_M
  rw [Nat.mul_assoc, ← Nat.pow_add, show (q - -1074).toNat + (own_B - 1074) = (q + (own_B : Int)).toNat by omega]
theorem own_scale {a b n m P Q : Int} (hP : 0 < P) (hQ : 0 < Q) (h1 : a * P = n * Q) (h2 : b * P = m * Q) : (a < b ↔ n < m) ∧ (a = b ↔ n = m) := by
  constructor
  · constructor
    · intro h
      have := Int.mul_lt_mul_of_pos_right h hP
      rw [h1, h2] at this
      exact Int.lt_of_mul_lt_mul_right this (Int.le_of_lt hQ)
    · intro h
      have := Int.mul_lt_mul_of_pos_right h hQ
      rw [← h1, ← h2] at this
      exact Int.lt_of_mul_lt_mul_right this (Int.le_of_lt hP)
  · constructor
    · intro h
      rw [h, h2] at h1
      exact (Int.eq_of_mul_eq_mul_right (by omega) h1).symm
    · intro h
      rw [h, ← h2] at h1
      exact Int.eq_of_mul_eq_mul_right (by omega) h1
theorem own_cmp {k : Nat} (hk : k ≤ 900) {n m : Int} {x y : UInt64} (hx : own_D k n x) (hy : own_D k m y) : FP.dcmp x y = some (compare n m) := by
  show FP.Core.dcmp x y = _
  rw [FP.Core.dcmp_zval (own_D_fin hx) (own_D_fin hy)]
  have P : (0 : Int) < ((2 ^ (own_B - 1074) : Nat) : Int) := own_pl _
  have Q : (0 : Int) < ((2 ^ (own_B - k) : Nat) : Int) := own_pl _
  have := own_scale P Q (own_zv hk hx) (own_zv hk hy)
  rw [FP.Core.compare_congr this.1 this.2]
/-- a product by 2^i -/
theorem own_D_up {k i : Nat} {n : Int} {x y : UInt64} {r : Int} (hx : own_D (k + i) n x) (hy : FP.Core.val64 y = .fin false (2 ^ 52) r) (hr : r = (i : Int) - 52) (hk : k + i ≤ 900) (hn : n.natAbs ≤ 2 ^ 53) : own_D k n (FP.dmul x y) := by
  have hB : own_B = 4000 := rfl
  obtain ⟨s, c, q, e, h⟩ := hx
  have hf := own_fits e
  have hs : (s != false) = s := by cases s <;> rfl
  have key : FP.Core.signed s (own_M (c * 2 ^ 52) (q + r)) = n * ((2 ^ (own_B - k) : Nat) : Int) := by
    have e2 : own_M (c * 2 ^ 52) (q + r) = own_M c q * 2 ^ i := by
      unfold own_M
      rw [Nat.mul_assoc, ← Nat.pow_add, Nat.mul_assoc, ← Nat.pow_add, show 52 + (q + r + (own_B : Int)).toNat = (q + (own_B : Int)).toNat + i by omega]
    have e3 : ((2 ^ (own_B - (k + i)) : Nat) : Int) * ((2 ^ i : Nat) : Int) = ((2 ^ (own_B - k) : Nat) : Int) := by
      rw [← Int.natCast_mul, ← Nat.pow_add, show own_B - (k + i) + i = own_B - k by omega]
    rw [e2, FP.Core.signed_mul, h, Int.mul_assoc, e3]
  obtain ⟨c', q', g1, g2⟩ := own_round (by omega) hn (by omega) key
  refine ⟨s, c', q', ?_, g2⟩
  rw [FP.Core.val64_dmul, e, hy]
  show FP.Core.roundRatio FP.Core.b64 (s != false) (c * 2 ^ 52) 1 (q + r) = _
  rw [hs, g1]
/-- a product by 2^-i -/
theorem own_D_down {k i : Nat} {n : Int} {x y : UInt64} {r : Int} (hx : own_D k n x) (hy : FP.Core.val64 y = .fin false (2 ^ 52) r) (hr : r = -(i : Int) - 52) (hk : k + i ≤ 900) (hn : n.natAbs ≤ 2 ^ 53) : own_D (k + i) n (FP.dmul x y) := by
  have hB : own_B = 4000 := rfl
  obtain ⟨s, c, q, e, h⟩ := hx
  have hf := own_fits e
  have hs : (s != false) = s := by cases s <;> rfl
  have key : FP.Core.signed s (own_M (c * 2 ^ 52) (q + r)) = n * ((2 ^ (own_B - (k + i)) : Nat) : Int) := by
    have p : ((2 ^ i : Nat) : Int) ≠ 0 := own_pp _
    refine Int.eq_of_mul_eq_mul_right p ?_
    have e2 : own_M (c * 2 ^ 52) (q + r) * 2 ^ i = own_M c q := by
      unfold own_M
      rw [Nat.mul_assoc, ← Nat.pow_add, Nat.mul_assoc, ← Nat.pow_add, show 52 + ((q + r + (own_B : Int)).toNat + i) = (q + (own_B : Int)).toNat by omega]
    have e3 : ((2 ^ (own_B - (k + i)) : Nat) : Int) * ((2 ^ i : Nat) : Int) = ((2 ^ (own_B - k) : Nat) : Int) := by
      rw [← Int.natCast_mul, ← Nat.pow_add, show own_B - (k + i) + i = own_B - k by omega]
    rw [← FP.Core.signed_mul, e2, h, Int.mul_assoc, e3]
  obtain ⟨c', q', g1, g2⟩ := own_round (by omega) hn (by omega) key
  refine ⟨s, c', q', ?_, g2⟩
  rw [FP.Core.val64_dmul, e, hy]
  show FP.Core.roundRatio FP.Core.b64 (s != false) (c * 2 ^ 52) 1 (q + r) = _
  rw [hs, g1]
theorem own_whole {n : Int} {x : UInt64} (hx : own_D 0 n x) : FP.Core.Whole n (FP.Core.val64 x) := by
  have hB : own_B = 4000 := rfl
  obtain ⟨s, c, q, e, h⟩ := hx
  have hf := own_fits e
  rw [e]
  show FP.Core.signed s (c * 2 ^ q.toNat) = n * ((2 ^ (-q).toNat : Nat) : Int)
  have p : ((2 ^ own_B : Nat) : Int) ≠ 0 := own_pp _
  refine Int.eq_of_mul_eq_mul_right p ?_
  unfold own_M at h
  rw [Nat.sub_zero] at h
  rw [← FP.Core.signed_mul, Nat.mul_assoc, ← Nat.pow_add, show q.toNat + own_B = (q + (own_B : Int)).toNat + (-q).toNat by omega, Nat.pow_add, ← Nat.mul_assoc, FP.Core.signed_mul, h, Int.mul_right_comm]
theorem own_D_zero {k : Nat} {x : UInt64} (hx : FP.Core.val64 x = .fin false 0 FP.Core.b64.qmin) : own_D k 0 x := ⟨_, _, _, hx, by rw [own_M, Nat.zero_mul, Int.zero_mul]; rfl⟩
theorem own_mulB {a b A B : Int} (h1 : -A ≤ a) (h2 : a ≤ A) (h3 : -B ≤ b) (h4 : b ≤ B) : -(A * B) ≤ a * b ∧ a * b ≤ A * B := by
  have hA : 0 ≤ A := by omega
  have hB : 0 ≤ B := by omega
  obtain ⟨A', rfl⟩ := Int.eq_ofNat_of_zero_le hA
  obtain ⟨B', rfl⟩ := Int.eq_ofNat_of_zero_le hB
  have e1 : a.natAbs ≤ A' := by omega
  have e2 : b.natAbs ≤ B' := by omega
  have e3 : (a * b).natAbs ≤ A' * B' := by rw [Int.natAbs_mul]; exact Nat.mul_le_mul e1 e2
  have e4 : ((A' * B' : Nat) : Int) = (A' : Int) * (B' : Int) := Int.natCast_mul _ _
  rw [← e4]
  generalize a * b = p at *
  omega
theorem own_keep {h h' : Heap} (e : h' = h) : Keep h h' [] := e ▸ Keep.refl h []
theorem own_keq {h h' : Heap} (ws : List Addr) (e : h' = h) : Keep h h' ws := e ▸ Keep.refl h ws
theorem own_sz {h h' : Heap} {n : Nat} (e : h' = h) (H : n ≤ h.size) : n ≤ h'.size := e ▸ H
def own_s (x : Int32) : Int32 := ((x <<< ((11 : Int32) &&& 31)) >>> ((11 : Int32) &&& 31))
theorem own_s_in (x : Int32) : -1048576 ≤ (own_s x).toInt ∧ (own_s x).toInt ≤ 1048576 := by
  have e : (own_s x).toInt = (x <<< ((11 : Int32) &&& 31)).toInt / 2 ^ 11 := Jvm.Kit.i32_shr _ ((11 : Int32) &&& 31) (by decide)
  have l1 := (x <<< ((11 : Int32) &&& 31)).toInt_lt
  have l2 := (x <<< ((11 : Int32) &&& 31)).le_toInt
  rw [e]
  omega
def own_q (x : Int32) : UInt64 := FP.ddiv (FP.i2d x) (4616189618054758400 : UInt64)
theorem own_k4 : FP.Core.val64 (4616189618054758400 : UInt64) = .fin false (2 ^ 52) (-50) := by decide +kernel
theorem own_k16 : FP.Core.val64 (4625196817309499392 : UInt64) = .fin false (2 ^ 52) (-48) := by decide +kernel
theorem own_q_D (x : Int32) : own_D 2 (own_s x).toInt (own_q (own_s x)) := by
  have h := own_s_in x
  have e : (own_s x).toInt64.toInt = (own_s x).toInt := Jvm.Kit.i64_of_i32 _
  have d : own_D 0 (own_s x).toInt (FP.l2d (own_s x).toInt64) := by
    have := own_D_l2d (a := (own_s x).toInt64) ⟨by rw [e]; omega, by rw [e]; omega⟩
    rwa [e] at this
  have := own_D_div (k := 0) (i := 2) d own_k4 (by decide) (by decide) (by omega)
  rw [own_q, i2d_w]
  simpa using this
theorem own_D_Fin {k : Nat} {n : Int} {x : UInt64} (h : own_D k n x) : Jvm.Free.Fl.Fin64 x := by
  obtain ⟨s, c, q, e, -⟩ := h
  exact Jvm.Free.Fl.fin64_core.mpr ⟨s, c, q, e⟩
def own_sq (a b c d : UInt64) : UInt64 := FP.dadd (FP.dmul (FP.dsub a b) (FP.dsub a b)) (FP.dmul (FP.dsub c d) (FP.dsub c d))
theorem own_sqB {a b : Int} (h1 : -1048576 ≤ a ∧ a ≤ 1048576) (h2 : -1048576 ≤ b ∧ b ≤ 1048576) : 0 ≤ (a - b) * (a - b) ∧ (a - b) * (a - b) ≤ 4398046511104 := by
  have h := own_mulB (a := a - b) (b := a - b) (A := 2097152) (B := 2097152) (by omega) (by omega) (by omega) (by omega)
  have p : 0 ≤ (a - b) * (a - b) := by
    rcases Int.le_total 0 (a - b) with q | q
    · exact Int.mul_nonneg q q
    · exact Int.mul_nonneg_of_nonpos_of_nonpos q q
  exact ⟨p, by omega⟩
theorem own_five {m n k j : Int} {a b c d : UInt64} (ha : own_D 2 m a) (hb : own_D 2 n b) (hc : own_D 2 k c) (hd : own_D 2 j d) (bm : -1048576 ≤ m ∧ m ≤ 1048576) (bn : -1048576 ≤ n ∧ n ≤ 1048576) (bk : -1048576 ≤ k ∧ k ≤ 1048576) (bj : -1048576 ≤ j ∧ j ≤ 1048576) :
    Jvm.Free.Fl.NoNaN64 (FP.dsub a b) ∧ Jvm.Free.Fl.NoNaN64 (FP.dsub c d) ∧ Jvm.Free.Fl.NoNaN64 (FP.dmul (FP.dsub a b) (FP.dsub a b)) ∧ Jvm.Free.Fl.NoNaN64 (FP.dmul (FP.dsub c d) (FP.dsub c d)) ∧ Jvm.Free.Fl.NoNaN64 (own_sq a b c d) ∧ own_D 4 ((m - n) * (m - n) + (k - j) * (k - j)) (own_sq a b c d) := by
  have s1 := own_D_sub ha hb (by decide) (by omega)
  have s2 := own_D_sub hc hd (by decide) (by omega)
  have q1 := own_sqB bm bn
  have q2 := own_sqB bk bj
  generalize hx : (m - n) * (m - n) = x at q1 ⊢
  generalize hy : (k - j) * (k - j) = y at q2 ⊢
  have p1 := own_D_mul s1 s1 (by decide) (by rw [hx]; omega)
  have p2 := own_D_mul s2 s2 (by decide) (by rw [hy]; omega)
  rw [hx] at p1
  rw [hy] at p2
  have r := own_D_add p1 p2 (by decide) (by omega)
  exact ⟨own_D_nn s1, own_D_nn s2, own_D_nn p1, own_D_nn p2, own_D_nn r, r⟩
def own_R (a b c d : Int32) : Int64 := ((((a.toInt64) - (c.toInt64)) * ((a.toInt64) - (c.toInt64))) + (((b.toInt64) - (d.toInt64)) * ((b.toInt64) - (d.toInt64))))
theorem own_R_int (a b c d : Int32) : (own_R (own_s a) (own_s b) (own_s c) (own_s d)).toInt = ((own_s a).toInt - (own_s c).toInt) * ((own_s a).toInt - (own_s c).toInt) + ((own_s b).toInt - (own_s d).toInt) * ((own_s b).toInt - (own_s d).toInt) := by
  have q1 := own_sqB (own_s_in a) (own_s_in c)
  have q2 := own_sqB (own_s_in b) (own_s_in d)
  have ha := own_s_in a
  have hb := own_s_in b
  have hc := own_s_in c
  have hd := own_s_in d
  have e1 : ((own_s a).toInt64 - (own_s c).toInt64).toInt = (own_s a).toInt - (own_s c).toInt := by
    rw [Jvm.Kit.i64_sub (by simp only [Jvm.Kit.i64_of_i32]; omega) (by simp only [Jvm.Kit.i64_of_i32]; omega), Jvm.Kit.i64_of_i32, Jvm.Kit.i64_of_i32]
  have e2 : ((own_s b).toInt64 - (own_s d).toInt64).toInt = (own_s b).toInt - (own_s d).toInt := by
    rw [Jvm.Kit.i64_sub (by simp only [Jvm.Kit.i64_of_i32]; omega) (by simp only [Jvm.Kit.i64_of_i32]; omega), Jvm.Kit.i64_of_i32, Jvm.Kit.i64_of_i32]
  unfold own_R
  generalize (own_s a).toInt64 - (own_s c).toInt64 = x at *
  generalize (own_s b).toInt64 - (own_s d).toInt64 = y at *
  rw [← e1] at q1 ⊢
  rw [← e2] at q2 ⊢
  have m1 : (x * x).toInt = x.toInt * x.toInt := Jvm.Kit.i64_mul (by omega) (by omega)
  have m2 : (y * y).toInt = y.toInt * y.toInt := Jvm.Kit.i64_mul (by omega) (by omega)
  rw [Jvm.Kit.i64_add (by rw [m1, m2]; omega) (by rw [m1, m2]; omega), m1, m2]
theorem own_exp (a b c d : Int32) : own_D 4 (own_R (own_s a) (own_s b) (own_s c) (own_s d)).toInt (FP.ddiv (FP.l2d (own_R (own_s a) (own_s b) (own_s c) (own_s d))) (4625196817309499392 : UInt64)) := by
  have q1 := own_sqB (own_s_in a) (own_s_in c)
  have q2 := own_sqB (own_s_in b) (own_s_in d)
  have e := own_R_int a b c d
  generalize ((own_s a).toInt - (own_s c).toInt) * ((own_s a).toInt - (own_s c).toInt) = x at *
  generalize ((own_s b).toInt - (own_s d).toInt) * ((own_s b).toInt - (own_s d).toInt) = y at *
  have := own_D_div (k := 0) (i := 4) (own_D_l2d (a := own_R (own_s a) (own_s b) (own_s c) (own_s d)) ⟨by omega, by omega⟩) own_k16 (by decide) (by decide) (by omega)
  simpa using this
theorem own_neg (a b : Int) : (b - a) * (b - a) = (a - b) * (a - b) := by
  rw [← Int.neg_sub a b, Int.neg_mul_neg]
theorem own_c1 (a b c d : Int32) : (cmpValue (FP.dcmp (own_sq (own_q (own_s a)) (own_q (own_s c)) (own_q (own_s b)) (own_q (own_s d))) (FP.ddiv (FP.l2d (own_R (own_s a) (own_s b) (own_s c) (own_s d))) (4625196817309499392 : UInt64))) .l) = (0 : Int32) := by
  have h := (own_five (own_q_D a) (own_q_D c) (own_q_D b) (own_q_D d) (own_s_in a) (own_s_in c) (own_s_in b) (own_s_in d)).2.2.2.2.2
  rw [own_cmp (by decide) h (own_exp a b c d), own_R_int, cmpV_l, (FP.Core.compare_eq_iff _ _).mpr rfl]
  rfl
theorem own_c2 (a b c d : Int32) : (cmpValue (FP.dcmp (own_sq (own_q (own_s c)) (own_q (own_s a)) (own_q (own_s d)) (own_q (own_s b))) (FP.ddiv (FP.l2d (own_R (own_s a) (own_s b) (own_s c) (own_s d))) (4625196817309499392 : UInt64))) .l) = (0 : Int32) := by
  have h := (own_five (own_q_D c) (own_q_D a) (own_q_D d) (own_q_D b) (own_s_in c) (own_s_in a) (own_s_in d) (own_s_in b)).2.2.2.2.2
  rw [own_neg, own_neg (own_s b).toInt] at h
  rw [own_cmp (by decide) h (own_exp a b c d), own_R_int, cmpV_l, (FP.Core.compare_eq_iff _ _).mpr rfl]
  rfl
set_option maxHeartbeats 4000000 in
theorem own_backFin {l : Launch} {R : Room} {p : Program} {e : Env} {below : List Frame} {s Z : State} {args a0 : Array Value} {h : Heap} {len W n0 : Nat} {a : UInt64} (hZ : Z.Warmed39 s.vm) (hw : ∀ d ∈ tables_1, d.before a0 Z = true) (ha : Jvm.Free.Fl.Fin64 a) (hf : 2 ≤ R.frames) (hl : W + 26 ≤ R.locals) :
    Back l R p e below s args (⟨"java/lang/Double", "isFinite", "(D)Z"⟩ : MethodName) len W (fun A b => b = #[.double a] ∧ A.U.heap = h ∧ A.cells + 0 ≤ R.cells ∧ A.slots + 0 ≤ R.slots) (fun A _ v B => ∃ L, (v = some (.int 1) ∧ Fr n0 L ∧ B.U.heap = h) ∧ B.locs = A.locs ++ L ∧ B.cells = A.cells + 0 ∧ B.slots = A.slots + 0) :=
  Back.of_free (bytes := jdk_117_method_8_code) (maxL := 2) (ret := some .boolean) (E := fun _ first o t L k n => L = [] ∧ k = 0 ∧ n = 0 ∧ o = .returned (some (.int 1)) ∧ t.heap = first.heap) (Jvm.Free.Fl.IsFinite.gets_fin l a) hf (by show W + (2 + 11) + 13 ≤ _; omega)
    (fun m meth c A b Y hp => by
      have hU : Z.Warmed39 A.U.vm := wtrans hZ Y.warmed
      refine ⟨?_, mv hU (hw _ (List.mem_of_getElem? (i := 22) rfl)), mv hU (hw _ (List.mem_of_getElem? (i := 21) rfl)), hp.2.2.1, hp.2.2.2⟩
      rw [hp.1]
      simp only [Jvm.Free.Fl.IsFinite.spec, Jvm.Free.Fl.IsFinite.tab, Cond.before_and, Bool.and_eq_true]
      exact ⟨rfl, mv hU (hw _ (List.mem_of_getElem? (i := 22) rfl)), mv hU (hw _ (List.mem_of_getElem? (i := 23) rfl)), mv hU (hw _ (List.mem_of_getElem? (i := 24) rfl)), mv hU (hw _ (List.mem_of_getElem? (i := 25) rfl)), mv hU (hw _ (List.mem_of_getElem? (i := 26) rfl)), mv hU (hw _ (List.mem_of_getElem? (i := 27) rfl))⟩)
    (fun m meth c A b g mk Y hp => ⟨hp.1, ha⟩) (fun _ _ _ _ _ _ _ _ _ => trivial)
    (fun _ _ _ _ ⟨h1, h2, h3⟩ => ⟨[], 0, 0, h3, rfl, rfl, rfl, h1, h2⟩)
    (fun m meth c A b g mk v t L k n Y hp _ _ ⟨e1, e2, e3, e4, e5⟩ => by subst e1 e2 e3; cases e4; exact ⟨[], ⟨rfl, Fr.nil _, e5.trans hp.2.1⟩, rfl, rfl, rfl⟩)
theorem d1_0 : decode method_2_code 0 = .ok (.iload_n 0, 1) := by decide +kernel
theorem d1_1 : decode method_2_code 1 = .ok (.bipush 11, 2) := by decide +kernel
theorem d1_3 : decode method_2_code 3 = .ok (.ishl, 1) := by decide +kernel
theorem d1_4 : decode method_2_code 4 = .ok (.bipush 11, 2) := by decide +kernel
theorem d1_6 : decode method_2_code 6 = .ok (.ishr, 1) := by decide +kernel
theorem d1_7 : decode method_2_code 7 = .ok (.ireturn, 1) := by decide +kernel
theorem pn_1 : plainName "com/example/coho/coho/topology/PointSquaredDistancePinLaw" = true := by first | (simp [plainName, overriddenIn]; done) | decide +kernel
theorem ef_1 (m : MethodId) (x0 : Int32) : entryFrame m #[(.int x0)] 1 = mkF m 0 #[.val (.int x0)] [] := by first | (simp [entryFrame, mkF, argsToLocals, Value.category]; done) | rfl
def Q1 (Z : State) (p1 : Int32) (h0 : Heap) (n0 : Nat) (v : Option Value) (h : Heap) (L : List Loc) : Prop := v = some (.int (own_s p1)) ∧ Fr n0 L ∧ h = h0
set_option maxRecDepth 65536 in
set_option maxHeartbeats 40000000 in
theorem rm1 (l : Launch) (Z : State) (a0 : Array Value) (hw : ∀ d ∈ tables_1, d.before a0 Z = true) (ws : List Jvm.Cond) (p1 : Int32) (h0 : Heap) (n0 : Nat) (Z0 : n0 ≤ h0.size) :
    MetFree l (⟨"com/example/coho/coho/topology/PointSquaredDistancePinLaw", "s21", "(I)I"⟩ : MethodName) (head1 (Jvm.Cond.code (⟨"com/example/coho/coho/topology/PointSquaredDistancePinLaw", "s21", "(I)I"⟩ : MethodName) method_2_code 1 (some .int) :: ws) ({ frames := 0, cells := 0, slots := 0, locals := 0 } : Room)) (fun a U => a = #[(.int p1)] ∧ Z.Warmed39 U.vm ∧ U.heap = h0) (fun _ _ _ _ _ => True) (fun _ U o U' => ∃ v L, o = .returned v ∧ Q1 Z p1 h0 n0 v U'.heap L ∧ FrameEnd U o U' L ({ frames := 0, cells := 0, slots := 0, locals := 0 } : Room).cells ({ frames := 0, cells := 0, slots := 0, locals := 0 } : Room).slots) := by
  refine MetFree.of_bodySF (plainFor_of_name pn_1) hisR ?_
  intro p e s m args below meth c s₁ Bd hml0 hP hK
  obtain ⟨rfl, hZ, hh⟩ := hP
  have hx := Bd.exec
  have hby := Bd.bytes
  have hml : c.maxLocals = 1 := hml0
  have hown : s.vm.findClass "com/example/coho/coho/topology/PointSquaredDistancePinLaw" = some m.cls := findClass_of_methodNamed Bd.named
  have hnm := (name_of_methodNamed Bd.named Bd.method).1
  have X0 : Stand p l e ({ frames := 0, cells := 0, slots := 0, locals := 0 } : Room) s m #[(.int p1)] below meth c s₁ [] 0 0 := Stand.of_body Bd
  have e0 : s₁.heap = h0 := by rw [← hh, Bd.state]; rfl
  have N0 := Fr.nil n0
  have pre0 : ∀ t, Steps p.tables e below (s₁.setTop (mkF m 0 #[.val (.int p1)] [])) t → Steps p.tables e below (s₁.setTop (entryFrame m #[(.int p1)] 1)) t := fun t k => castTop (ef_1 m p1) k
  obtain ⟨fs, hr, hrun, hended, hW, hsame⟩ := X0.leave (v := some (.int (own_s p1))) (fun h => by rw [Bd.returns] at h; cases h)
  refine ⟨_, _, pre0 _ ?_, hrun, hended, _, _, rfl, ?_, ⟨_, rfl⟩, hW, hsame.mono (by decide) (by decide)⟩
  · show Steps p.tables e below (s₁.setTop (mkF m 0 #[.val (.int p1)] [])) _
    refine XS.iloadN X0.here hx rfl (hb hby d1_0) rfl ?_
    show Steps p.tables e below (s₁.setTop (mkF m 1 #[.val (.int p1)] [(.int p1)])) _
    refine XS.bipush X0.here hx rfl (hb hby d1_1) ?_
    show Steps p.tables e below (s₁.setTop (mkF m 3 #[.val (.int p1)] [(.int (11 : Int32)), (.int p1)])) _
    refine XS.ishl X0.here hx rfl (hb hby d1_3) rfl ?_
    show Steps p.tables e below (s₁.setTop (mkF m 4 #[.val (.int p1)] [(.int (p1 <<< ((11 : Int32) &&& 31)))])) _
    refine XS.bipush X0.here hx rfl (hb hby d1_4) ?_
    show Steps p.tables e below (s₁.setTop (mkF m 6 #[.val (.int p1)] [(.int (11 : Int32)), (.int (p1 <<< ((11 : Int32) &&& 31)))])) _
    refine XS.ishr X0.here hx rfl (hb hby d1_6) rfl ?_
    show Steps p.tables e below (s₁.setTop (mkF m 7 #[.val (.int p1)] [(.int (own_s p1))])) _
    exact retI X0 hx Bd.returns (hb hby d1_7) hr
  · show Q1 Z p1 h0 n0 _ s₁.heap _
    rw [e0]
    exact ⟨rfl, N0, rfl⟩
theorem d3_0 : decode jdk_30_method_1_code 0 = .ok (.aload_n 0, 1) := by decide +kernel
theorem d3_1 : decode jdk_30_method_1_code 1 = .ok (.invokespecial 1, 3) := by decide +kernel
theorem d3_4 : decode jdk_30_method_1_code 4 = .ok (.return_, 1) := by decide +kernel
theorem pn_3 : plainName "java/lang/Record" = true := by first | (simp [plainName, overriddenIn]; done) | decide +kernel
theorem ef_3 (m : MethodId) (x0 : Addr) : entryFrame m #[(.ref x0)] 1 = mkF m 0 #[.val (.ref x0)] [] := by first | (simp [entryFrame, mkF, argsToLocals, Value.category]; done) | rfl
def Q3 (Z : State) (a1 : Addr) (h0 : Heap) (n0 : Nat) (v : Option Value) (h : Heap) (L : List Loc) : Prop := v = none ∧ Fr n0 L ∧ h = h0
set_option maxRecDepth 65536 in
set_option maxHeartbeats 40000000 in
theorem rm3 (l : Launch) (Z : State) (a0 : Array Value) (hw : ∀ d ∈ tables_1, d.before a0 Z = true) (ws : List Jvm.Cond) (a1 : Addr) (h0 : Heap) (n0 : Nat) (Z0 : n0 ≤ h0.size) :
    MetFree l (⟨"java/lang/Record", "<init>", "()V"⟩ : MethodName) (head1 (Jvm.Cond.code (⟨"java/lang/Record", "<init>", "()V"⟩ : MethodName) jdk_30_method_1_code 1 none :: ws) ({ frames := 1, cells := 0, slots := 0, locals := 12 } : Room)) (fun a U => a = #[(.ref a1)] ∧ Z.Warmed39 U.vm ∧ U.heap = h0) (fun _ _ _ _ _ => True) (fun _ U o U' => ∃ v L, o = .returned v ∧ Q3 Z a1 h0 n0 v U'.heap L ∧ FrameEnd U o U' L ({ frames := 1, cells := 0, slots := 0, locals := 12 } : Room).cells ({ frames := 1, cells := 0, slots := 0, locals := 12 } : Room).slots) := by
  refine MetFree.of_bodySF (plainFor_of_name pn_3) hisR ?_
  intro p e s m args below meth c s₁ Bd hml0 hP hK
  obtain ⟨rfl, hZ, hh⟩ := hP
  have hx := Bd.exec
  have hby := Bd.bytes
  have hml : c.maxLocals = 1 := hml0
  have hown : s.vm.findClass "java/lang/Record" = some m.cls := findClass_of_methodNamed Bd.named
  have hnm := (name_of_methodNamed Bd.named Bd.method).1
  have X0 : Stand p l e ({ frames := 1, cells := 0, slots := 0, locals := 12 } : Room) s m #[(.ref a1)] below meth c s₁ [] 0 0 := Stand.of_body Bd
  have e0 : s₁.heap = h0 := by rw [← hh, Bd.state]; rfl
  have N0 := Fr.nil n0
  have pre0 : ∀ t, Steps p.tables e below (s₁.setTop (mkF m 0 #[.val (.ref a1)] [])) t → Steps p.tables e below (s₁.setTop (entryFrame m #[(.ref a1)] 1)) t := fun t k => castTop (ef_3 m a1) k
  obtain ⟨T2, X2, e2, st2⟩ := initO X0 hx hZ hown (hw _ (List.mem_of_getElem? (i := 16) rfl)) (hw _ (List.mem_of_getElem? (i := 17) rfl)) (hw _ (List.mem_of_getElem? (i := 18) rfl)) e0 (g := (mkF m 1 #[.val (.ref a1)] [(.ref a1)])) rfl (by rw [hml]; rfl) rfl (hb hby d3_1) (by decide) (W := 0) (by show 2 * 0 + _ ≤ _; exact Nat.le_of_eq rfl) (by decide)
  obtain ⟨fs, hr, hrun, hended, hW, hsame⟩ := X2.leave (v := none) (fun _ => rfl)
  refine ⟨_, _, pre0 _ ?_, hrun, hended, _, _, rfl, ?_, ⟨_, rfl⟩, hW, hsame.mono (by decide) (by decide)⟩
  · show Steps p.tables e below (s₁.setTop (mkF m 0 #[.val (.ref a1)] [])) _
    refine XS.aloadN X0.here hx rfl (hb hby d3_0) rfl rfl ?_
    show Steps p.tables e below (s₁.setTop (mkF m 1 #[.val (.ref a1)] [(.ref a1)])) _
    refine st2 _ ?_
    show Steps p.tables e below (T2.setTop (mkF m 4 #[.val (.ref a1)] [])) _
    exact X2.returnOut hx Bd.returns (hb hby d3_4) hr
  · show Q3 Z a1 h0 n0 _ T2.heap _
    rw [e2]
    exact ⟨rfl, N0, rfl⟩
theorem d2_0 : decode prog_82_method_1_code 0 = .ok (.aload_n 0, 1) := by decide +kernel
theorem d2_1 : decode prog_82_method_1_code 1 = .ok (.invokespecial 1, 3) := by decide +kernel
theorem d2_4 : decode prog_82_method_1_code 4 = .ok (.dload_n 1, 1) := by decide +kernel
theorem d2_5 : decode prog_82_method_1_code 5 = .ok (.invokestatic 7, 3) := by decide +kernel
theorem d2_8 : decode prog_82_method_1_code 8 = .ok (.ifCond .eq 10, 3) := by decide +kernel
theorem d2_11 : decode prog_82_method_1_code 11 = .ok (.dload_n 3, 1) := by decide +kernel
theorem d2_12 : decode prog_82_method_1_code 12 = .ok (.invokestatic 7, 3) := by decide +kernel
theorem d2_15 : decode prog_82_method_1_code 15 = .ok (.ifCond .ne 18, 3) := by decide +kernel
theorem d2_33 : decode prog_82_method_1_code 33 = .ok (.aload_n 0, 1) := by decide +kernel
theorem d2_34 : decode prog_82_method_1_code 34 = .ok (.dload_n 1, 1) := by decide +kernel
theorem d2_35 : decode prog_82_method_1_code 35 = .ok (.putfield 22, 3) := by decide +kernel
theorem d2_38 : decode prog_82_method_1_code 38 = .ok (.aload_n 0, 1) := by decide +kernel
theorem d2_39 : decode prog_82_method_1_code 39 = .ok (.dload_n 3, 1) := by decide +kernel
theorem d2_40 : decode prog_82_method_1_code 40 = .ok (.putfield 28, 3) := by decide +kernel
theorem d2_43 : decode prog_82_method_1_code 43 = .ok (.return_, 1) := by decide +kernel
theorem pn_2 : plainName "com/example/coho/coho/topology/Point" = true := by first | (simp [plainName, overriddenIn]; done) | decide +kernel
theorem pd_2_2 : parseMethodDescriptor "()V" = some ⟨[], none⟩ := by decide +kernel
theorem pd_2_3 : parseMethodDescriptor "(D)Z" = some ⟨[.double], some .boolean⟩ := by decide +kernel
theorem ef_2 (m : MethodId) (x0 : Addr) (x1 : UInt64) (x2 : UInt64) : entryFrame m #[(.ref x0), (.double x1), (.double x2)] 5 = mkF m 0 #[.val (.ref x0), .val (.double x1), .second, .val (.double x2), .second] [] := by first | (simp [entryFrame, mkF, argsToLocals, Value.category]; done) | rfl
def Q2 (Z : State) (a1 : Addr) (d2 d3 : UInt64) (h0 : Heap) (n0 : Nat) (v : Option Value) (h : Heap) (L : List Loc) : Prop := v = none ∧ Fr n0 L ∧ Keep h0 h [a1] ∧ Exa Z h a1 "com/example/coho/coho/topology/Point" ∧ Fld Z h a1 "com/example/coho/coho/topology/Point" "xKm" "D" (.double d2) ∧ Fld Z h a1 "com/example/coho/coho/topology/Point" "yKm" "D" (.double d3)
set_option maxRecDepth 65536 in
set_option maxHeartbeats 40000000 in
theorem rm2 (l : Launch) (Z : State) (a0 : Array Value) (hw : ∀ d ∈ tables_1, d.before a0 Z = true) (ws : List Jvm.Cond) (a1 : Addr) (d2 : UInt64) (d3 : UInt64) (u_xKm_a1 : Value) (u_yKm_a1 : Value) (h0 : Heap) (n0 : Nat) (Z0 : n0 ≤ h0.size) (fd2 : Jvm.Free.Fl.Fin64 d2) (fd3 : Jvm.Free.Fl.Fin64 d3) (E_a1 : Exa Z h0 a1 "com/example/coho/coho/topology/Point") (F_xKm_a1 : Fld Z h0 a1 "com/example/coho/coho/topology/Point" "xKm" "D" u_xKm_a1) (g_a1 : n0 ≤ a1) (F_yKm_a1 : Fld Z h0 a1 "com/example/coho/coho/topology/Point" "yKm" "D" u_yKm_a1) :
    MetFree l (⟨"com/example/coho/coho/topology/Point", "<init>", "(DD)V"⟩ : MethodName) (head1 (Jvm.Cond.code (⟨"com/example/coho/coho/topology/Point", "<init>", "(DD)V"⟩ : MethodName) prog_82_method_1_code 5 none :: ws) ({ frames := 2, cells := 0, slots := 0, locals := 26 } : Room)) (fun a U => a = #[(.ref a1), (.double d2), (.double d3)] ∧ Z.Warmed39 U.vm ∧ U.heap = h0) (fun _ _ _ _ _ => True) (fun _ U o U' => ∃ v L, o = .returned v ∧ Q2 Z a1 d2 d3 h0 n0 v U'.heap L ∧ FrameEnd U o U' L ({ frames := 2, cells := 0, slots := 0, locals := 26 } : Room).cells ({ frames := 2, cells := 0, slots := 0, locals := 26 } : Room).slots) := by
  refine MetFree.of_bodySF (plainFor_of_name pn_2) hisR ?_
  intro p e s m args below meth c s₁ Bd hml0 hP hK
  obtain ⟨rfl, hZ, hh⟩ := hP
  have hx := Bd.exec
  have hby := Bd.bytes
  have hml : c.maxLocals = 5 := hml0
  have hown : s.vm.findClass "com/example/coho/coho/topology/Point" = some m.cls := findClass_of_methodNamed Bd.named
  have hnm := (name_of_methodNamed Bd.named Bd.method).1
  have X0 : Stand p l e ({ frames := 2, cells := 0, slots := 0, locals := 26 } : Room) s m #[(.ref a1), (.double d2), (.double d3)] below meth c s₁ [] 0 0 := Stand.of_body Bd
  have e0 : s₁.heap = h0 := by rw [← hh, Bd.state]; rfl
  have N0 := Fr.nil n0
  have pre0 : ∀ t, Steps p.tables e below (s₁.setTop (mkF m 0 #[.val (.ref a1), .val (.double d2), .second, .val (.double d3), .second] [])) t → Steps p.tables e below (s₁.setTop (entryFrame m #[(.ref a1), (.double d2), (.double d3)] 5)) t := fun t k => castTop (ef_2 m a1 d2 d3) k
  obtain ⟨_, _, ⟨T4, L4, k4, n4⟩, -, X4, ⟨Lc4, hQ4, l4, y4, z4⟩, st4⟩ := X0.specialBack hx (y := (⟨"java/lang/Record", "<init>", "()V"⟩ : MethodName)) rfl hown (mvT hZ (hw _ (List.mem_of_getElem? (i := 11) rfl))) (mvT hZ (hw _ (List.mem_of_getElem? (i := 12) rfl))) (mvT hZ (hw _ (List.mem_of_getElem? (i := 15) rfl))) (by decide) (backOf (W := 0) (rm3 l Z a0 hw [] a1  h0 n0 Z0) hZ (hw _ (List.mem_of_getElem? (i := 15) rfl)) (hw _ (List.mem_of_getElem? (i := 14) rfl)) (by decide) (by decide)) (g := (mkF m 1 #[.val (.ref a1), .val (.double d2), .second, .val (.double d3), .second] [(.ref a1)])) rfl (by rw [hml]; rfl) (Steps.refl _) (a := a1) (argsL := []) (rest := []) (lenOf pd_2_2 rfl) rfl (by show 2 * 0 + _ ≤ _; exact Nat.le_of_eq rfl) (hb hby d2_1) (fun _ _ => ⟨rfl, e0, (by decide : 0 + 0 ≤ _), (by decide : 0 + 0 ≤ _)⟩)
  dsimp only [Pt.U, Pt.locs, Pt.cells, Pt.slots] at X4 l4 y4 z4 st4 hQ4
  subst l4 y4 z4
  obtain ⟨rfl, N4q, e4⟩ := hQ4
  have N4 := Fr.app N0 N4q
  obtain ⟨_, _, ⟨T5, L5, k5, n5⟩, -, X5, ⟨Lc5, hQ5, l5, y5, z5⟩, st5⟩ := Jvm.LawKit.callS X4 hx (y := (⟨"java/lang/Double", "isFinite", "(D)Z"⟩ : MethodName)) hown (mvT hZ (hw _ (List.mem_of_getElem? (i := 19) rfl))) (mvT hZ (hw _ (List.mem_of_getElem? (i := 20) rfl))) (mvT hZ (hw _ (List.mem_of_getElem? (i := 21) rfl))) (mvT hZ (hw _ (List.mem_of_getElem? (i := 22) rfl))) (by decide) (own_backFin (W := 0) (n0 := n0) hZ hw fd2 (by decide) (by decide)) (g := (mkF m 5 #[.val (.ref a1), .val (.double d2), .second, .val (.double d3), .second] [(.double d2)])) rfl (by rw [hml]; rfl) (argsL := [(.double d2)]) (rest := []) (lenOf pd_2_3 rfl) rfl (by show 2 * 0 + _ ≤ _; exact Nat.le_of_eq rfl) (hb hby d2_5) (fun _ _ => ⟨rfl, rfl, (by decide : 0 + 0 ≤ _), (by decide : 0 + 0 ≤ _)⟩)
  dsimp only [Pt.U, Pt.locs, Pt.cells, Pt.slots] at X5 l5 y5 z5 st5 hQ5
  subst l5 y5 z5
  obtain ⟨rfl, N5q, e5⟩ := hQ5
  have N5 := Fr.app N4 N5q
  obtain ⟨_, _, ⟨T6, L6, k6, n6⟩, -, X6, ⟨Lc6, hQ6, l6, y6, z6⟩, st6⟩ := Jvm.LawKit.callS X5 hx (y := (⟨"java/lang/Double", "isFinite", "(D)Z"⟩ : MethodName)) hown (mvT hZ (hw _ (List.mem_of_getElem? (i := 19) rfl))) (mvT hZ (hw _ (List.mem_of_getElem? (i := 20) rfl))) (mvT hZ (hw _ (List.mem_of_getElem? (i := 21) rfl))) (mvT hZ (hw _ (List.mem_of_getElem? (i := 22) rfl))) (by decide) (own_backFin (W := 0) (n0 := n0) hZ hw fd3 (by decide) (by decide)) (g := (mkF m 12 #[.val (.ref a1), .val (.double d2), .second, .val (.double d3), .second] [(.double d3)])) rfl (by rw [hml]; rfl) (argsL := [(.double d3)]) (rest := []) (lenOf pd_2_3 rfl) rfl (by show 2 * 0 + _ ≤ _; exact Nat.le_of_eq rfl) (hb hby d2_12) (fun _ _ => ⟨rfl, rfl, (by decide : 0 + 0 ≤ _), (by decide : 0 + 0 ≤ _)⟩)
  dsimp only [Pt.U, Pt.locs, Pt.cells, Pt.slots] at X6 l6 y6 z6 st6 hQ6
  subst l6 y6 z6
  obtain ⟨rfl, N6q, e6⟩ := hQ6
  have N6 := Fr.app N5 N6q
  obtain ⟨T7, h7, X7, e7, W7, st7⟩ := putF X6 hx hZ hown (host := "") (Or.inl (hw _ (List.mem_of_getElem? (i := 28) rfl))) Via.refl rfl (((F_xKm_a1.keep (own_keep e4) (by simp)).keep (own_keep e5) (by simp)).keep (own_keep e6) (by simp)) (((E_a1.keep (own_keep e4)).keep (own_keep e5)).keep (own_keep e6)) (Or.inr ⟨(hw _ (List.mem_of_getElem? (i := 29) rfl)), rfl, hnm⟩) (hw _ (List.mem_of_getElem? (i := 5) rfl)) (ty := .double) (by decide) rfl rfl (g := (mkF m 35 #[.val (.ref a1), .val (.double d2), .second, .val (.double d3), .second] [(.double d2), (.ref a1)])) rfl rfl (hb hby d2_35)
  have Fw7 := (((F_xKm_a1.keep (own_keep e4) (by simp)).keep (own_keep e5) (by simp)).keep (own_keep e6) (by simp)).same W7
  have K7 : Keep h0 h7 [a1] := (own_keq [a1] (e6.trans (e5.trans e4))).wr W7 (Or.inl (List.mem_of_getElem? (i := 0) rfl))
  have N7 := Fr.snoc X7 N6 g_a1
  obtain ⟨T8, h8, X8, e8, W8, st8⟩ := putF X7 hx hZ hown (host := "") (Or.inl (hw _ (List.mem_of_getElem? (i := 30) rfl))) Via.refl e7 ((((F_yKm_a1.keep (own_keep e4) (by simp)).keep (own_keep e5) (by simp)).keep (own_keep e6) (by simp)).other W7 (Or.inr (slot_ne (Or.inr (hw _ (List.mem_of_getElem? (i := 31) rfl))) (Or.inr (hw _ (List.mem_of_getElem? (i := 29) rfl))) (by decide) (t := .double) (t' := .double) (by decide) (by decide)))) ((((E_a1.keep (own_keep e4)).keep (own_keep e5)).keep (own_keep e6)).wr W7) (Or.inr ⟨(hw _ (List.mem_of_getElem? (i := 31) rfl)), rfl, hnm⟩) (hw _ (List.mem_of_getElem? (i := 5) rfl)) (ty := .double) (by decide) rfl rfl (g := (mkF m 40 #[.val (.ref a1), .val (.double d2), .second, .val (.double d3), .second] [(.double d3), (.ref a1)])) rfl rfl (hb hby d2_40)
  have Fw8 := ((((F_yKm_a1.keep (own_keep e4) (by simp)).keep (own_keep e5) (by simp)).keep (own_keep e6) (by simp)).other W7 (Or.inr (slot_ne (Or.inr (hw _ (List.mem_of_getElem? (i := 31) rfl))) (Or.inr (hw _ (List.mem_of_getElem? (i := 29) rfl))) (by decide) (t := .double) (t' := .double) (by decide) (by decide)))).same W8
  have K8 : Keep h0 h8 [a1] := K7.wr W8 (Or.inl (List.mem_of_getElem? (i := 0) rfl))
  have N8 := Fr.snoc X8 N7 g_a1
  obtain ⟨fs, hr, hrun, hended, hW, hsame⟩ := X8.leave (v := none) (fun _ => rfl)
  refine ⟨_, _, pre0 _ ?_, hrun, hended, _, _, rfl, ?_, ⟨_, rfl⟩, hW, hsame.mono (by decide) (by decide)⟩
  · show Steps p.tables e below (s₁.setTop (mkF m 0 #[.val (.ref a1), .val (.double d2), .second, .val (.double d3), .second] [])) _
    refine XS.aloadN X0.here hx rfl (hb hby d2_0) rfl rfl ?_
    show Steps p.tables e below (s₁.setTop (mkF m 1 #[.val (.ref a1), .val (.double d2), .second, .val (.double d3), .second] [(.ref a1)])) _
    refine st4.trans ?_
    show Steps p.tables e below (T4.setTop (mkF m 4 #[.val (.ref a1), .val (.double d2), .second, .val (.double d3), .second] [])) _
    refine XS.dloadN X4.here hx rfl (hb hby d2_4) rfl ?_
    show Steps p.tables e below (T4.setTop (mkF m 5 #[.val (.ref a1), .val (.double d2), .second, .val (.double d3), .second] [(.double d2)])) _
    refine st5 _ ?_
    show Steps p.tables e below (T5.setTop (mkF m 8 #[.val (.ref a1), .val (.double d2), .second, .val (.double d3), .second] [(.int (1 : Int32))])) _
    refine XS.ifNo X5.here hx rfl (hb hby d2_8) rfl ((if0 _ _).trans (feq ((by decide) : ¬ ((1 : Int32) = (0 : Int32)))).1) ?_
    show Steps p.tables e below (T5.setTop (mkF m 11 #[.val (.ref a1), .val (.double d2), .second, .val (.double d3), .second] [])) _
    refine XS.dloadN X5.here hx rfl (hb hby d2_11) rfl ?_
    show Steps p.tables e below (T5.setTop (mkF m 12 #[.val (.ref a1), .val (.double d2), .second, .val (.double d3), .second] [(.double d3)])) _
    refine st6 _ ?_
    show Steps p.tables e below (T6.setTop (mkF m 15 #[.val (.ref a1), .val (.double d2), .second, .val (.double d3), .second] [(.int (1 : Int32))])) _
    refine XS.ifYes X6.here hx rfl (pc0 := 15) (pc' := 33) rfl (hb hby d2_15) rfl ((if0 _ _).trans (feq ((by decide) : ¬ ((1 : Int32) = (0 : Int32)))).2) (by decide) (by decide) ?_
    show Steps p.tables e below (T6.setTop (mkF m 33 #[.val (.ref a1), .val (.double d2), .second, .val (.double d3), .second] [])) _
    refine XS.aloadN X6.here hx rfl (hb hby d2_33) rfl rfl ?_
    show Steps p.tables e below (T6.setTop (mkF m 34 #[.val (.ref a1), .val (.double d2), .second, .val (.double d3), .second] [(.ref a1)])) _
    refine XS.dloadN X6.here hx rfl (hb hby d2_34) rfl ?_
    show Steps p.tables e below (T6.setTop (mkF m 35 #[.val (.ref a1), .val (.double d2), .second, .val (.double d3), .second] [(.double d2), (.ref a1)])) _
    refine st7 _ ?_
    show Steps p.tables e below (T7.setTop (mkF m 38 #[.val (.ref a1), .val (.double d2), .second, .val (.double d3), .second] [])) _
    refine XS.aloadN X7.here hx rfl (hb hby d2_38) rfl rfl ?_
    show Steps p.tables e below (T7.setTop (mkF m 39 #[.val (.ref a1), .val (.double d2), .second, .val (.double d3), .second] [(.ref a1)])) _
    refine XS.dloadN X7.here hx rfl (hb hby d2_39) rfl ?_
    show Steps p.tables e below (T7.setTop (mkF m 40 #[.val (.ref a1), .val (.double d2), .second, .val (.double d3), .second] [(.double d3), (.ref a1)])) _
    refine st8 _ ?_
    show Steps p.tables e below (T8.setTop (mkF m 43 #[.val (.ref a1), .val (.double d2), .second, .val (.double d3), .second] [])) _
    exact X8.returnOut hx Bd.returns (hb hby d2_43) hr
  · show Q2 Z a1 d2 d3 h0 n0 _ T8.heap _
    rw [e8]
    exact ⟨rfl, N8, K8, ((((E_a1.keep (own_keep e4)).keep (own_keep e5)).keep (own_keep e6)).wr W7).wr W8, (Fw7.other W8 (Or.inr (slot_ne (Or.inr (hw _ (List.mem_of_getElem? (i := 29) rfl))) (Or.inr (hw _ (List.mem_of_getElem? (i := 31) rfl))) (by decide) (t := .double) (t' := .double) (by decide) (by decide)))), Fw8⟩
theorem d7_0 : decode prog_82_method_2_code 0 = .ok (.aload_n 0, 1) := by decide +kernel
theorem d7_1 : decode prog_82_method_2_code 1 = .ok (.getfield 22, 3) := by decide +kernel
theorem d7_4 : decode prog_82_method_2_code 4 = .ok (.aload_n 1, 1) := by decide +kernel
theorem d7_5 : decode prog_82_method_2_code 5 = .ok (.getfield 22, 3) := by decide +kernel
theorem d7_8 : decode prog_82_method_2_code 8 = .ok (.dsub, 1) := by decide +kernel
theorem d7_9 : decode prog_82_method_2_code 9 = .ok (.dstore_n 2, 1) := by decide +kernel
theorem d7_10 : decode prog_82_method_2_code 10 = .ok (.aload_n 0, 1) := by decide +kernel
theorem d7_11 : decode prog_82_method_2_code 11 = .ok (.getfield 28, 3) := by decide +kernel
theorem d7_14 : decode prog_82_method_2_code 14 = .ok (.aload_n 1, 1) := by decide +kernel
theorem d7_15 : decode prog_82_method_2_code 15 = .ok (.getfield 28, 3) := by decide +kernel
theorem d7_18 : decode prog_82_method_2_code 18 = .ok (.dsub, 1) := by decide +kernel
theorem d7_19 : decode prog_82_method_2_code 19 = .ok (.dstore 4, 2) := by decide +kernel
theorem d7_21 : decode prog_82_method_2_code 21 = .ok (.dload_n 2, 1) := by decide +kernel
theorem d7_22 : decode prog_82_method_2_code 22 = .ok (.dload_n 2, 1) := by decide +kernel
theorem d7_23 : decode prog_82_method_2_code 23 = .ok (.dmul, 1) := by decide +kernel
theorem d7_24 : decode prog_82_method_2_code 24 = .ok (.dload 4, 2) := by decide +kernel
theorem d7_26 : decode prog_82_method_2_code 26 = .ok (.dload 4, 2) := by decide +kernel
theorem d7_28 : decode prog_82_method_2_code 28 = .ok (.dmul, 1) := by decide +kernel
theorem d7_29 : decode prog_82_method_2_code 29 = .ok (.dadd, 1) := by decide +kernel
theorem d7_30 : decode prog_82_method_2_code 30 = .ok (.dreturn, 1) := by decide +kernel
theorem pn_7 : plainName "com/example/coho/coho/topology/Point" = true := by first | (simp [plainName, overriddenIn]; done) | decide +kernel
theorem ef_7 (m : MethodId) (x0 : Addr) (x1 : Addr) : entryFrame m #[(.ref x0), (.ref x1)] 6 = mkF m 0 #[.val (.ref x0), .val (.ref x1), .unset, .unset, .unset, .unset] [] := by first | (simp [entryFrame, mkF, argsToLocals, Value.category]; done) | rfl
def Q7 (Z : State) (a1 : Addr) (a2 : Addr) (w3 : UInt64) (w5 : UInt64) (w7 : UInt64) (w9 : UInt64) (h0 : Heap) (n0 : Nat) (v : Option Value) (h : Heap) (L : List Loc) : Prop := v = some (.double (own_sq w3 w5 w7 w9)) ∧ Fr n0 L ∧ h = h0
set_option maxRecDepth 65536 in
set_option maxHeartbeats 40000000 in
theorem rm7 (l : Launch) (Z : State) (a0 : Array Value) (hw : ∀ d ∈ tables_1, d.before a0 Z = true) (ws : List Jvm.Cond) (a1 : Addr) (a2 : Addr) (w3 : UInt64) (w5 : UInt64) (w7 : UInt64) (w9 : UInt64) (h0 : Heap) (n0 : Nat) (Z0 : n0 ≤ h0.size) (hn8 : Jvm.Free.Fl.NoNaN64 (FP.dsub w3 w5)) (hn18 : Jvm.Free.Fl.NoNaN64 (FP.dsub w7 w9)) (hn23 : Jvm.Free.Fl.NoNaN64 (FP.dmul (FP.dsub w3 w5) (FP.dsub w3 w5))) (hn28 : Jvm.Free.Fl.NoNaN64 (FP.dmul (FP.dsub w7 w9) (FP.dsub w7 w9))) (hn29 : Jvm.Free.Fl.NoNaN64 (own_sq w3 w5 w7 w9)) (F_xKm_a1 : Fld Z h0 a1 "com/example/coho/coho/topology/Point" "xKm" "D" (.double w3)) (F_xKm_a2 : Fld Z h0 a2 "com/example/coho/coho/topology/Point" "xKm" "D" (.double w5)) (F_yKm_a1 : Fld Z h0 a1 "com/example/coho/coho/topology/Point" "yKm" "D" (.double w7)) (F_yKm_a2 : Fld Z h0 a2 "com/example/coho/coho/topology/Point" "yKm" "D" (.double w9)) :
    MetFree l (⟨"com/example/coho/coho/topology/Point", "squaredDistance", "(Lcom/example/coho/coho/topology/Point;)D"⟩ : MethodName) (head1 (Jvm.Cond.code (⟨"com/example/coho/coho/topology/Point", "squaredDistance", "(Lcom/example/coho/coho/topology/Point;)D"⟩ : MethodName) prog_82_method_2_code 6 (some .double) :: ws) ({ frames := 0, cells := 0, slots := 0, locals := 0 } : Room)) (fun a U => a = #[(.ref a1), (.ref a2)] ∧ Z.Warmed39 U.vm ∧ U.heap = h0) (fun _ _ _ _ _ => True) (fun _ U o U' => ∃ v L, o = .returned v ∧ Q7 Z a1 a2 w3 w5 w7 w9 h0 n0 v U'.heap L ∧ FrameEnd U o U' L ({ frames := 0, cells := 0, slots := 0, locals := 0 } : Room).cells ({ frames := 0, cells := 0, slots := 0, locals := 0 } : Room).slots) := by
  refine MetFree.of_bodySF (plainFor_of_name pn_7) hisR ?_
  intro p e s m args below meth c s₁ Bd hml0 hP hK
  obtain ⟨rfl, hZ, hh⟩ := hP
  have hx := Bd.exec
  have hby := Bd.bytes
  have hml : c.maxLocals = 6 := hml0
  have hown : s.vm.findClass "com/example/coho/coho/topology/Point" = some m.cls := findClass_of_methodNamed Bd.named
  have hnm := (name_of_methodNamed Bd.named Bd.method).1
  have X0 : Stand p l e ({ frames := 0, cells := 0, slots := 0, locals := 0 } : Room) s m #[(.ref a1), (.ref a2)] below meth c s₁ [] 0 0 := Stand.of_body Bd
  have e0 : s₁.heap = h0 := by rw [← hh, Bd.state]; rfl
  have N0 := Fr.nil n0
  have pre0 : ∀ t, Steps p.tables e below (s₁.setTop (mkF m 0 #[.val (.ref a1), .val (.ref a2), .unset, .unset, .unset, .unset] [])) t → Steps p.tables e below (s₁.setTop (entryFrame m #[(.ref a1), (.ref a2)] 6)) t := fun t k => castTop (ef_7 m a1 a2) k
  obtain ⟨T4, X4, e4, st4⟩ := getF X0 hx hZ hown (host := "") (Or.inl (hw _ (List.mem_of_getElem? (i := 28) rfl))) Via.refl e0 F_xKm_a1 (g := (mkF m 1 #[.val (.ref a1), .val (.ref a2), .unset, .unset, .unset, .unset] [(.ref a1)])) rfl rfl (hb hby d7_1)
  obtain ⟨T6, X6, e6, st6⟩ := getF X4 hx hZ hown (host := "") (Or.inl (hw _ (List.mem_of_getElem? (i := 28) rfl))) Via.refl e4 F_xKm_a2 (g := (mkF m 5 #[.val (.ref a1), .val (.ref a2), .unset, .unset, .unset, .unset] [(.ref a2), (.double w3)])) rfl rfl (hb hby d7_5)
  obtain ⟨T8, X8, e8, st8⟩ := getF X6 hx hZ hown (host := "") (Or.inl (hw _ (List.mem_of_getElem? (i := 30) rfl))) Via.refl e6 F_yKm_a1 (g := (mkF m 11 #[.val (.ref a1), .val (.ref a2), .val (.double (FP.dsub w3 w5)), .second, .unset, .unset] [(.ref a1)])) rfl rfl (hb hby d7_11)
  obtain ⟨T10, X10, e10, st10⟩ := getF X8 hx hZ hown (host := "") (Or.inl (hw _ (List.mem_of_getElem? (i := 30) rfl))) Via.refl e8 F_yKm_a2 (g := (mkF m 15 #[.val (.ref a1), .val (.ref a2), .val (.double (FP.dsub w3 w5)), .second, .unset, .unset] [(.ref a2), (.double w7)])) rfl rfl (hb hby d7_15)
  obtain ⟨fs, hr, hrun, hended, hW, hsame⟩ := X10.leave (v := some (.double (own_sq w3 w5 w7 w9))) (fun h => by rw [Bd.returns] at h; cases h)
  refine ⟨_, _, pre0 _ ?_, hrun, hended, _, _, rfl, ?_, ⟨_, rfl⟩, hW, hsame.mono (by decide) (by decide)⟩
  · show Steps p.tables e below (s₁.setTop (mkF m 0 #[.val (.ref a1), .val (.ref a2), .unset, .unset, .unset, .unset] [])) _
    refine XS.aloadN X0.here hx rfl (hb hby d7_0) rfl rfl ?_
    show Steps p.tables e below (s₁.setTop (mkF m 1 #[.val (.ref a1), .val (.ref a2), .unset, .unset, .unset, .unset] [(.ref a1)])) _
    refine st4 _ ?_
    show Steps p.tables e below (T4.setTop (mkF m 4 #[.val (.ref a1), .val (.ref a2), .unset, .unset, .unset, .unset] [(.double w3)])) _
    refine XS.aloadN X4.here hx rfl (hb hby d7_4) rfl rfl ?_
    show Steps p.tables e below (T4.setTop (mkF m 5 #[.val (.ref a1), .val (.ref a2), .unset, .unset, .unset, .unset] [(.ref a2), (.double w3)])) _
    refine st6 _ ?_
    show Steps p.tables e below (T6.setTop (mkF m 8 #[.val (.ref a1), .val (.ref a2), .unset, .unset, .unset, .unset] [(.double w5), (.double w3)])) _
    refine XS.dsubS X6.here hx rfl (hb hby d7_8) rfl hn8 rfl ?_
    show Steps p.tables e below (T6.setTop (mkF m 9 #[.val (.ref a1), .val (.ref a2), .unset, .unset, .unset, .unset] [(.double (FP.dsub w3 w5))])) _
    refine XS.dstoreN X6.here hx rfl (hb hby d7_9) rfl (l' := #[.val (.ref a1), .val (.ref a2), .val (.double (FP.dsub w3 w5)), .second, .unset, .unset]) rfl ?_
    show Steps p.tables e below (T6.setTop (mkF m 10 #[.val (.ref a1), .val (.ref a2), .val (.double (FP.dsub w3 w5)), .second, .unset, .unset] [])) _
    refine XS.aloadN X6.here hx rfl (hb hby d7_10) rfl rfl ?_
    show Steps p.tables e below (T6.setTop (mkF m 11 #[.val (.ref a1), .val (.ref a2), .val (.double (FP.dsub w3 w5)), .second, .unset, .unset] [(.ref a1)])) _
    refine st8 _ ?_
    show Steps p.tables e below (T8.setTop (mkF m 14 #[.val (.ref a1), .val (.ref a2), .val (.double (FP.dsub w3 w5)), .second, .unset, .unset] [(.double w7)])) _
    refine XS.aloadN X8.here hx rfl (hb hby d7_14) rfl rfl ?_
    show Steps p.tables e below (T8.setTop (mkF m 15 #[.val (.ref a1), .val (.ref a2), .val (.double (FP.dsub w3 w5)), .second, .unset, .unset] [(.ref a2), (.double w7)])) _
    refine st10 _ ?_
    show Steps p.tables e below (T10.setTop (mkF m 18 #[.val (.ref a1), .val (.ref a2), .val (.double (FP.dsub w3 w5)), .second, .unset, .unset] [(.double w9), (.double w7)])) _
    refine XS.dsubS X10.here hx rfl (hb hby d7_18) rfl hn18 rfl ?_
    show Steps p.tables e below (T10.setTop (mkF m 19 #[.val (.ref a1), .val (.ref a2), .val (.double (FP.dsub w3 w5)), .second, .unset, .unset] [(.double (FP.dsub w7 w9))])) _
    refine XS.dstore X10.here hx rfl (hb hby d7_19) rfl (l' := #[.val (.ref a1), .val (.ref a2), .val (.double (FP.dsub w3 w5)), .second, .val (.double (FP.dsub w7 w9)), .second]) rfl ?_
    show Steps p.tables e below (T10.setTop (mkF m 21 #[.val (.ref a1), .val (.ref a2), .val (.double (FP.dsub w3 w5)), .second, .val (.double (FP.dsub w7 w9)), .second] [])) _
    refine XS.dloadN X10.here hx rfl (hb hby d7_21) rfl ?_
    show Steps p.tables e below (T10.setTop (mkF m 22 #[.val (.ref a1), .val (.ref a2), .val (.double (FP.dsub w3 w5)), .second, .val (.double (FP.dsub w7 w9)), .second] [(.double (FP.dsub w3 w5))])) _
    refine XS.dloadN X10.here hx rfl (hb hby d7_22) rfl ?_
    show Steps p.tables e below (T10.setTop (mkF m 23 #[.val (.ref a1), .val (.ref a2), .val (.double (FP.dsub w3 w5)), .second, .val (.double (FP.dsub w7 w9)), .second] [(.double (FP.dsub w3 w5)), (.double (FP.dsub w3 w5))])) _
    refine XS.dmulS X10.here hx rfl (hb hby d7_23) rfl hn23 rfl ?_
    show Steps p.tables e below (T10.setTop (mkF m 24 #[.val (.ref a1), .val (.ref a2), .val (.double (FP.dsub w3 w5)), .second, .val (.double (FP.dsub w7 w9)), .second] [(.double (FP.dmul (FP.dsub w3 w5) (FP.dsub w3 w5)))])) _
    refine XS.dload X10.here hx rfl (hb hby d7_24) rfl ?_
    show Steps p.tables e below (T10.setTop (mkF m 26 #[.val (.ref a1), .val (.ref a2), .val (.double (FP.dsub w3 w5)), .second, .val (.double (FP.dsub w7 w9)), .second] [(.double (FP.dsub w7 w9)), (.double (FP.dmul (FP.dsub w3 w5) (FP.dsub w3 w5)))])) _
    refine XS.dload X10.here hx rfl (hb hby d7_26) rfl ?_
    show Steps p.tables e below (T10.setTop (mkF m 28 #[.val (.ref a1), .val (.ref a2), .val (.double (FP.dsub w3 w5)), .second, .val (.double (FP.dsub w7 w9)), .second] [(.double (FP.dsub w7 w9)), (.double (FP.dsub w7 w9)), (.double (FP.dmul (FP.dsub w3 w5) (FP.dsub w3 w5)))])) _
    refine XS.dmulS X10.here hx rfl (hb hby d7_28) rfl hn28 rfl ?_
    show Steps p.tables e below (T10.setTop (mkF m 29 #[.val (.ref a1), .val (.ref a2), .val (.double (FP.dsub w3 w5)), .second, .val (.double (FP.dsub w7 w9)), .second] [(.double (FP.dmul (FP.dsub w7 w9) (FP.dsub w7 w9))), (.double (FP.dmul (FP.dsub w3 w5) (FP.dsub w3 w5)))])) _
    refine XS.daddS X10.here hx rfl (hb hby d7_29) rfl hn29 rfl ?_
    show Steps p.tables e below (T10.setTop (mkF m 30 #[.val (.ref a1), .val (.ref a2), .val (.double (FP.dsub w3 w5)), .second, .val (.double (FP.dsub w7 w9)), .second] [(.double (own_sq w3 w5 w7 w9))])) _
    jvm_step X10.here [X10.here.top, hx, (hb hby d7_30), X10.method', Bd.returns, narrow]
    first | (intro acts; rw [hr _ acts rfl rfl rfl]) | rw [hr _ _ rfl rfl rfl]
    exact Steps.refl _
  · show Q7 Z a1 a2 w3 w5 w7 w9 h0 n0 _ T10.heap _
    rw [e10]
    exact ⟨rfl, N0, rfl⟩
theorem pn_0 : plainName "com/example/coho/coho/topology/PointSquaredDistancePinLaw" = true := by first | (simp [plainName, overriddenIn]; done) | decide +kernel
theorem pd_0_0 : parseMethodDescriptor "(I)I" = some ⟨[.int], some .int⟩ := by decide +kernel
theorem pd_0_1 : parseMethodDescriptor "(DD)V" = some ⟨[.double, .double], none⟩ := by decide +kernel
theorem pd_0_5 : parseMethodDescriptor "(Lcom/example/coho/coho/topology/Point;)D" = some ⟨[(.object "com/example/coho/coho/topology/Point")], some .double⟩ := by decide +kernel
theorem ef_0 (m : MethodId) (x0 : Int32) (x1 : Int32) (x2 : Int32) (x3 : Int32) : entryFrame m #[(.int x0), (.int x1), (.int x2), (.int x3)] maxLocals = mkF m 0 #[.val (.int x0), .val (.int x1), .val (.int x2), .val (.int x3), .unset, .unset, .unset, .unset, .unset, .unset, .unset, .unset, .unset, .unset, .unset, .unset, .unset, .unset] [] := by first | (simp [entryFrame, mkF, argsToLocals, Value.category, maxLocals]; done) | rfl
def Q0 (Z : State) (p1 : Int32) (p2 : Int32) (p3 : Int32) (p4 : Int32) (h0 : Heap) (n0 : Nat) (v : Option Value) (h : Heap) (L : List Loc) : Prop := v = some (.int (1 : Int32)) ∧ Fr n0 L
set_option maxRecDepth 65536 in
set_option maxHeartbeats 40000000 in
theorem rm0 (l : Launch) (Z : State) (a0 : Array Value) (hw : ∀ d ∈ tables_1, d.before a0 Z = true) (ws : List Jvm.Cond) (p1 : Int32) (p2 : Int32) (p3 : Int32) (p4 : Int32) (h0 : Heap) (n0 : Nat) (Z0 : n0 ≤ h0.size) :
    MetFree l x (head1 (Jvm.Cond.code x code maxLocals ret :: ws) room_1) (fun a U => a = #[(.int p1), (.int p2), (.int p3), (.int p4)] ∧ Z.Warmed39 U.vm ∧ U.heap = h0) (fun _ _ _ _ _ => True) (fun _ U o U' => ∃ v L, o = .returned v ∧ Q0 Z p1 p2 p3 p4 h0 n0 v U'.heap L ∧ FrameEnd U o U' L room_1.cells room_1.slots) := by
  refine MetFree.of_bodySF (plainFor_of_name pn_0) hisR ?_
  intro p e s m args below meth c s₁ Bd hml0 hP hK
  obtain ⟨rfl, hZ, hh⟩ := hP
  have hx := Bd.exec
  have hby := Bd.bytes
  have hml : c.maxLocals = 18 := hml0
  have hown : s.vm.findClass "com/example/coho/coho/topology/PointSquaredDistancePinLaw" = some m.cls := findClass_of_methodNamed Bd.named
  have hnm := (name_of_methodNamed Bd.named Bd.method).1
  have X0 : Stand p l e room_1 s m #[(.int p1), (.int p2), (.int p3), (.int p4)] below meth c s₁ [] 0 0 := Stand.of_body Bd
  have e0 : s₁.heap = h0 := by rw [← hh, Bd.state]; rfl
  have N0 := Fr.nil n0
  have pre0 : ∀ t, Steps p.tables e below (s₁.setTop (mkF m 0 #[.val (.int p1), .val (.int p2), .val (.int p3), .val (.int p4), .unset, .unset, .unset, .unset, .unset, .unset, .unset, .unset, .unset, .unset, .unset, .unset, .unset, .unset] [])) t → Steps p.tables e below (s₁.setTop (entryFrame m #[(.int p1), (.int p2), (.int p3), (.int p4)] maxLocals)) t := fun t k => castTop (ef_0 m p1 p2 p3 p4) k
  obtain ⟨_, _, ⟨T5, L5, k5, n5⟩, -, X5, ⟨Lc5, hQ5, l5, y5, z5⟩, st5⟩ := Jvm.LawKit.callS X0 hx (y := (⟨"com/example/coho/coho/topology/PointSquaredDistancePinLaw", "s21", "(I)I"⟩ : MethodName)) hown (mvT hZ (hw _ (List.mem_of_getElem? (i := 0) rfl))) (mvT hZ (hw _ (List.mem_of_getElem? (i := 1) rfl))) (mvT hZ (hw _ (List.mem_of_getElem? (i := 2) rfl))) (mvT hZ (hw _ (List.mem_of_getElem? (i := 3) rfl))) (by decide) (backOf (W := 0) (rm1 l Z a0 hw [] p1  h0 n0 Z0) hZ (hw _ (List.mem_of_getElem? (i := 3) rfl)) (hw _ (List.mem_of_getElem? (i := 2) rfl)) (by decide) (by decide)) (g := (mkF m 1 #[.val (.int p1), .val (.int p2), .val (.int p3), .val (.int p4), .unset, .unset, .unset, .unset, .unset, .unset, .unset, .unset, .unset, .unset, .unset, .unset, .unset, .unset] [(.int p1)])) rfl (by rw [hml]; rfl) (argsL := [(.int p1)]) (rest := []) (lenOf pd_0_0 rfl) rfl (by show 2 * 0 + _ ≤ _; exact Nat.le_of_eq rfl) (hb hby at_1) (fun _ _ => ⟨rfl, e0, (by decide : 0 + 0 ≤ _), (by decide : 0 + 0 ≤ _)⟩)
  dsimp only [Pt.U, Pt.locs, Pt.cells, Pt.slots] at X5 l5 y5 z5 st5 hQ5
  subst l5 y5 z5
  obtain ⟨rfl, N5q, e5⟩ := hQ5
  have N5 := Fr.app N0 N5q
  obtain ⟨_, _, ⟨T6, L6, k6, n6⟩, -, X6, ⟨Lc6, hQ6, l6, y6, z6⟩, st6⟩ := Jvm.LawKit.callS X5 hx (y := (⟨"com/example/coho/coho/topology/PointSquaredDistancePinLaw", "s21", "(I)I"⟩ : MethodName)) hown (mvT hZ (hw _ (List.mem_of_getElem? (i := 0) rfl))) (mvT hZ (hw _ (List.mem_of_getElem? (i := 1) rfl))) (mvT hZ (hw _ (List.mem_of_getElem? (i := 2) rfl))) (mvT hZ (hw _ (List.mem_of_getElem? (i := 3) rfl))) (by decide) (backOf (W := 0) (rm1 l Z a0 hw [] p2  T5.heap n0 (own_sz e5 Z0)) hZ (hw _ (List.mem_of_getElem? (i := 3) rfl)) (hw _ (List.mem_of_getElem? (i := 2) rfl)) (by decide) (by decide)) (g := (mkF m 7 #[.val (.int p1), .val (.int p2), .val (.int p3), .val (.int p4), .val (.int (own_s p1)), .unset, .unset, .unset, .unset, .unset, .unset, .unset, .unset, .unset, .unset, .unset, .unset, .unset] [(.int p2)])) rfl (by rw [hml]; rfl) (argsL := [(.int p2)]) (rest := []) (lenOf pd_0_0 rfl) rfl (by show 2 * 0 + _ ≤ _; exact Nat.le_of_eq rfl) (hb hby at_7) (fun _ _ => ⟨rfl, rfl, (by decide : 0 + 0 ≤ _), (by decide : 0 + 0 ≤ _)⟩)
  dsimp only [Pt.U, Pt.locs, Pt.cells, Pt.slots] at X6 l6 y6 z6 st6 hQ6
  subst l6 y6 z6
  obtain ⟨rfl, N6q, e6⟩ := hQ6
  have N6 := Fr.app N5 N6q
  obtain ⟨_, _, ⟨T7, L7, k7, n7⟩, -, X7, ⟨Lc7, hQ7, l7, y7, z7⟩, st7⟩ := Jvm.LawKit.callS X6 hx (y := (⟨"com/example/coho/coho/topology/PointSquaredDistancePinLaw", "s21", "(I)I"⟩ : MethodName)) hown (mvT hZ (hw _ (List.mem_of_getElem? (i := 0) rfl))) (mvT hZ (hw _ (List.mem_of_getElem? (i := 1) rfl))) (mvT hZ (hw _ (List.mem_of_getElem? (i := 2) rfl))) (mvT hZ (hw _ (List.mem_of_getElem? (i := 3) rfl))) (by decide) (backOf (W := 0) (rm1 l Z a0 hw [] p3  T6.heap n0 (own_sz e6 (own_sz e5 Z0))) hZ (hw _ (List.mem_of_getElem? (i := 3) rfl)) (hw _ (List.mem_of_getElem? (i := 2) rfl)) (by decide) (by decide)) (g := (mkF m 13 #[.val (.int p1), .val (.int p2), .val (.int p3), .val (.int p4), .val (.int (own_s p1)), .val (.int (own_s p2)), .unset, .unset, .unset, .unset, .unset, .unset, .unset, .unset, .unset, .unset, .unset, .unset] [(.int p3)])) rfl (by rw [hml]; rfl) (argsL := [(.int p3)]) (rest := []) (lenOf pd_0_0 rfl) rfl (by show 2 * 0 + _ ≤ _; exact Nat.le_of_eq rfl) (hb hby at_13) (fun _ _ => ⟨rfl, rfl, (by decide : 0 + 0 ≤ _), (by decide : 0 + 0 ≤ _)⟩)
  dsimp only [Pt.U, Pt.locs, Pt.cells, Pt.slots] at X7 l7 y7 z7 st7 hQ7
  subst l7 y7 z7
  obtain ⟨rfl, N7q, e7⟩ := hQ7
  have N7 := Fr.app N6 N7q
  obtain ⟨_, _, ⟨T8, L8, k8, n8⟩, -, X8, ⟨Lc8, hQ8, l8, y8, z8⟩, st8⟩ := Jvm.LawKit.callS X7 hx (y := (⟨"com/example/coho/coho/topology/PointSquaredDistancePinLaw", "s21", "(I)I"⟩ : MethodName)) hown (mvT hZ (hw _ (List.mem_of_getElem? (i := 0) rfl))) (mvT hZ (hw _ (List.mem_of_getElem? (i := 1) rfl))) (mvT hZ (hw _ (List.mem_of_getElem? (i := 2) rfl))) (mvT hZ (hw _ (List.mem_of_getElem? (i := 3) rfl))) (by decide) (backOf (W := 0) (rm1 l Z a0 hw [] p4  T7.heap n0 (own_sz e7 (own_sz e6 (own_sz e5 Z0)))) hZ (hw _ (List.mem_of_getElem? (i := 3) rfl)) (hw _ (List.mem_of_getElem? (i := 2) rfl)) (by decide) (by decide)) (g := (mkF m 19 #[.val (.int p1), .val (.int p2), .val (.int p3), .val (.int p4), .val (.int (own_s p1)), .val (.int (own_s p2)), .val (.int (own_s p3)), .unset, .unset, .unset, .unset, .unset, .unset, .unset, .unset, .unset, .unset, .unset] [(.int p4)])) rfl (by rw [hml]; rfl) (argsL := [(.int p4)]) (rest := []) (lenOf pd_0_0 rfl) rfl (by show 2 * 0 + _ ≤ _; exact Nat.le_of_eq rfl) (hb hby at_19) (fun _ _ => ⟨rfl, rfl, (by decide : 0 + 0 ≤ _), (by decide : 0 + 0 ≤ _)⟩)
  dsimp only [Pt.U, Pt.locs, Pt.cells, Pt.slots] at X8 l8 y8 z8 st8 hQ8
  subst l8 y8 z8
  obtain ⟨rfl, N8q, e8⟩ := hQ8
  have N8 := Fr.app N7 N8q
  obtain ⟨T9, h9, X9, e9, E9, A9, D9, -, st9⟩ := newO X8 hx hZ hown (hw _ (List.mem_of_getElem? (i := 4) rfl)) (hw _ (List.mem_of_getElem? (i := 5) rfl)) (hw _ (List.mem_of_getElem? (i := 6) rfl)) rfl (g := (mkF m 24 #[.val (.int p1), .val (.int p2), .val (.int p3), .val (.int p4), .val (.int (own_s p1)), .val (.int (own_s p2)), .val (.int (own_s p3)), .val (.int (own_s p4)), .unset, .unset, .unset, .unset, .unset, .unset, .unset, .unset, .unset, .unset] [])) rfl (hb hby at_24) (by decide) (by decide)
  obtain ⟨b9, g9⟩ : ∃ z, z = T8.heap.size := ⟨_, rfl⟩
  rw [← g9] at A9 D9 st9
  have F_xKm_b9 : Fld Z h9 b9 "com/example/coho/coho/topology/Point" "xKm" "D" (.double 0) := D9 (Or.inr (hw _ (List.mem_of_getElem? (i := 29) rfl))) (ty := .double) (by decide)
  have F_yKm_b9 : Fld Z h9 b9 "com/example/coho/coho/topology/Point" "yKm" "D" (.double 0) := D9 (Or.inr (hw _ (List.mem_of_getElem? (i := 31) rfl))) (ty := .double) (by decide)
  have E_b9 := A9
  have g_b9 : n0 ≤ b9 := Nat.le_trans (Nat.le_trans (Nat.le_trans (Nat.le_trans (Nat.le_trans Z0 (own_keep e5).1) (own_keep e6).1) (own_keep e7).1) (own_keep e8).1) (Nat.le_of_eq g9.symm)
  have sz_b9 : h0.size ≤ b9 := (Nat.le_trans (own_keq [] (e8.trans (e7.trans (e6.trans e5)))).1 (Nat.le_of_eq g9.symm))
  have K9 : Keep h0 h9 [] := (own_keq [] (e8.trans (e7.trans (e6.trans e5)))).ext E9
  have Z9 : n0 ≤ h9.size := Nat.le_trans (own_sz e8 (own_sz e7 (own_sz e6 (own_sz e5 Z0)))) E9.1
  obtain ⟨_, _, ⟨T10, L10, k10, n10⟩, -, X10, ⟨Lc10, hQ10, l10, y10, z10⟩, st10⟩ := X9.specialBack hx (y := (⟨"com/example/coho/coho/topology/Point", "<init>", "(DD)V"⟩ : MethodName)) rfl hown (mvT hZ (hw _ (List.mem_of_getElem? (i := 8) rfl))) (mvT hZ (hw _ (List.mem_of_getElem? (i := 9) rfl))) (mvT hZ (hw _ (List.mem_of_getElem? (i := 10) rfl))) (by decide) (backOf (W := 1) (rm2 l Z a0 hw [] b9 (own_q (own_s p1)) (own_q (own_s p2)) (.double 0) (.double 0) h9 n0 Z9 (own_D_Fin (own_q_D p1)) (own_D_Fin (own_q_D p2)) E_b9 F_xKm_b9 g_b9 F_yKm_b9) hZ (hw _ (List.mem_of_getElem? (i := 10) rfl)) (hw _ (List.mem_of_getElem? (i := 6) rfl)) (by decide) (by decide)) (g := (mkF m 42 #[.val (.int p1), .val (.int p2), .val (.int p3), .val (.int p4), .val (.int (own_s p1)), .val (.int (own_s p2)), .val (.int (own_s p3)), .val (.int (own_s p4)), .unset, .unset, .unset, .unset, .unset, .unset, .unset, .unset, .unset, .unset] [(.double (own_q (own_s p2))), (.double (own_q (own_s p1))), (.ref b9), (.ref b9)])) rfl (by rw [hml]; rfl) (Steps.refl _) (a := b9) (argsL := [(.double (own_q (own_s p1))), (.double (own_q (own_s p2)))]) (rest := [(.ref b9)]) (lenOf pd_0_1 rfl) rfl (by show 2 * 0 + _ ≤ _; exact Nat.le_of_eq rfl) (hb hby at_42) (fun _ _ => ⟨rfl, e9, (by decide : 1 + 0 ≤ _), (by decide : 2 + 0 ≤ _)⟩)
  dsimp only [Pt.U, Pt.locs, Pt.cells, Pt.slots] at X10 l10 y10 z10 st10 hQ10
  subst l10 y10 z10
  obtain ⟨rfl, N10q, K10, E10, Fx10, Fy10⟩ := hQ10
  have N10 := Fr.app N8 N10q
  obtain ⟨T11, h11, X11, e11, E11, A11, D11, -, st11⟩ := newO X10 hx hZ hown (hw _ (List.mem_of_getElem? (i := 4) rfl)) (hw _ (List.mem_of_getElem? (i := 5) rfl)) (hw _ (List.mem_of_getElem? (i := 6) rfl)) rfl (g := (mkF m 47 #[.val (.int p1), .val (.int p2), .val (.int p3), .val (.int p4), .val (.int (own_s p1)), .val (.int (own_s p2)), .val (.int (own_s p3)), .val (.int (own_s p4)), .val (.ref b9), .unset, .unset, .unset, .unset, .unset, .unset, .unset, .unset, .unset] [])) rfl (hb hby at_47) (by decide) (by decide)
  obtain ⟨b11, g11⟩ : ∃ z, z = T10.heap.size := ⟨_, rfl⟩
  rw [← g11] at A11 D11 st11
  have F_xKm_b11 : Fld Z h11 b11 "com/example/coho/coho/topology/Point" "xKm" "D" (.double 0) := D11 (Or.inr (hw _ (List.mem_of_getElem? (i := 29) rfl))) (ty := .double) (by decide)
  have F_yKm_b11 : Fld Z h11 b11 "com/example/coho/coho/topology/Point" "yKm" "D" (.double 0) := D11 (Or.inr (hw _ (List.mem_of_getElem? (i := 31) rfl))) (ty := .double) (by decide)
  have E_b11 := A11
  have g_b11 : n0 ≤ b11 := Nat.le_trans (Nat.le_trans (Nat.le_trans (Nat.le_trans (Nat.le_trans (Nat.le_trans (Nat.le_trans Z0 (own_keep e5).1) (own_keep e6).1) (own_keep e7).1) (own_keep e8).1) E9.1) K10.1) (Nat.le_of_eq g11.symm)
  have sz_b11 : h0.size ≤ b11 := (Nat.le_trans (K9.trans K10 (fun x hx => Or.inr (by cases List.mem_singleton.mp hx; exact sz_b9))).1 (Nat.le_of_eq g11.symm))
  have K11 : Keep h0 h11 [] := (K9.trans K10 (fun x hx => Or.inr (by cases List.mem_singleton.mp hx; exact sz_b9))).ext E11
  have Z11 : n0 ≤ h11.size := Nat.le_trans (Nat.le_trans Z9 K10.1) E11.1
  have hne : b9 ≠ b11 := Nat.ne_of_lt (Nat.lt_of_lt_of_le Fx10.lt (Nat.le_of_eq g11.symm))
  have hm1 : b9 ∉ [b11] := fun q => hne (List.mem_singleton.mp q)
  obtain ⟨_, _, ⟨T12, L12, k12, n12⟩, -, X12, ⟨Lc12, hQ12, l12, y12, z12⟩, st12⟩ := X11.specialBack hx (y := (⟨"com/example/coho/coho/topology/Point", "<init>", "(DD)V"⟩ : MethodName)) rfl hown (mvT hZ (hw _ (List.mem_of_getElem? (i := 8) rfl))) (mvT hZ (hw _ (List.mem_of_getElem? (i := 9) rfl))) (mvT hZ (hw _ (List.mem_of_getElem? (i := 10) rfl))) (by decide) (backOf (W := 1) (rm2 l Z a0 hw [] b11 (own_q (own_s p3)) (own_q (own_s p4)) (.double 0) (.double 0) h11 n0 Z11 (own_D_Fin (own_q_D p3)) (own_D_Fin (own_q_D p4)) E_b11 F_xKm_b11 g_b11 F_yKm_b11) hZ (hw _ (List.mem_of_getElem? (i := 10) rfl)) (hw _ (List.mem_of_getElem? (i := 6) rfl)) (by decide) (by decide)) (g := (mkF m 65 #[.val (.int p1), .val (.int p2), .val (.int p3), .val (.int p4), .val (.int (own_s p1)), .val (.int (own_s p2)), .val (.int (own_s p3)), .val (.int (own_s p4)), .val (.ref b9), .unset, .unset, .unset, .unset, .unset, .unset, .unset, .unset, .unset] [(.double (own_q (own_s p4))), (.double (own_q (own_s p3))), (.ref b11), (.ref b11)])) rfl (by rw [hml]; rfl) (Steps.refl _) (a := b11) (argsL := [(.double (own_q (own_s p3))), (.double (own_q (own_s p4)))]) (rest := [(.ref b11)]) (lenOf pd_0_1 rfl) rfl (by show 2 * 0 + _ ≤ _; exact Nat.le_of_eq rfl) (hb hby at_65) (fun _ _ => ⟨rfl, e11, (by decide : 2 + 0 ≤ _), (by decide : 4 + 0 ≤ _)⟩)
  dsimp only [Pt.U, Pt.locs, Pt.cells, Pt.slots] at X12 l12 y12 z12 st12 hQ12
  subst l12 y12 z12
  obtain ⟨rfl, N12q, K12, E12, Fx12, Fy12⟩ := hQ12
  have N12 := Fr.app N10 N12q
  have Z12 := Nat.le_trans Z11 K12.1
  have Gx := (Fx10.ext E11).keep K12 hm1
  have Gy := (Fy10.ext E11).keep K12 hm1
  have h13 := own_five (own_q_D p1) (own_q_D p3) (own_q_D p2) (own_q_D p4) (own_s_in p1) (own_s_in p3) (own_s_in p2) (own_s_in p4)
  have h14 := own_five (own_q_D p3) (own_q_D p1) (own_q_D p4) (own_q_D p2) (own_s_in p3) (own_s_in p1) (own_s_in p4) (own_s_in p2)
  obtain ⟨cq13, kq13, q13a, q13b, q13c⟩ := isOf hZ rfl (((E_b9.keep K10).ext E11).keep K12)
  obtain ⟨_, _, ⟨T13, L13, k13, n13⟩, -, X13, ⟨Lc13, hQ13, l13, y13, z13⟩, st13⟩ := X12.virtualBack hx (y := (⟨"com/example/coho/coho/topology/Point", "squaredDistance", "(Lcom/example/coho/coho/topology/Point;)D"⟩ : MethodName)) (z := (⟨"com/example/coho/coho/topology/Point", "squaredDistance", "(Lcom/example/coho/coho/topology/Point;)D"⟩ : MethodName)) hown (mvT hZ (hw _ (List.mem_of_getElem? (i := 33) rfl))) (mvT hZ (hw _ (List.mem_of_getElem? (i := 34) rfl))) (notFace_of_selects (args := #[]) (mvT hZ (hw _ (List.mem_of_getElem? (i := 36) rfl)))) (mvT hZ (hw _ (List.mem_of_getElem? (i := 36) rfl))) (mvT hZ (hw _ (List.mem_of_getElem? (i := 35) rfl))) (by decide) (backOf (W := 0) (rm7 l Z a0 hw [] b9 b11 (own_q (own_s p1)) (own_q (own_s p3)) (own_q (own_s p2)) (own_q (own_s p4)) T12.heap n0 Z12 h13.1 h13.2.1 h13.2.2.1 h13.2.2.2.1 h13.2.2.2.2.1 Gx Fx12 Gy Fy12) hZ (hw _ (List.mem_of_getElem? (i := 37) rfl)) (hw _ (List.mem_of_getElem? (i := 6) rfl)) (by decide) (by decide)) q13a q13c (g := (mkF m 114 #[.val (.int p1), .val (.int p2), .val (.int p3), .val (.int p4), .val (.int (own_s p1)), .val (.int (own_s p2)), .val (.int (own_s p3)), .val (.int (own_s p4)), .val (.ref b9), .val (.ref b11), .val (.long (((own_s p1).toInt64) - ((own_s p3).toInt64))), .second, .val (.long (((own_s p2).toInt64) - ((own_s p4).toInt64))), .second, .val (.long (own_R (own_s p1) (own_s p2) (own_s p3) (own_s p4))), .second, .val (.double (FP.ddiv (FP.l2d (own_R (own_s p1) (own_s p2) (own_s p3) (own_s p4))) (4625196817309499392 : UInt64))), .second] [(.ref b11), (.ref b9)])) rfl (by rw [hml]; rfl) (Steps.refl _) (argsL := [(.ref b11)]) (rest := []) (lenOf pd_0_5 rfl) rfl (by show 2 * 0 + _ ≤ _; exact Nat.le_of_eq rfl) (hb hby at_114) (fun _ _ => ⟨rfl, rfl, (by decide : 2 + 0 ≤ _), (by decide : 4 + 0 ≤ _)⟩)
  dsimp only [Pt.U, Pt.locs, Pt.cells, Pt.slots] at X13 l13 y13 z13 st13 hQ13
  subst l13 y13 z13
  obtain ⟨rfl, N13q, e13⟩ := hQ13
  have N13 := Fr.app N12 N13q
  have k13 := own_keep e13
  obtain ⟨cq14, kq14, q14a, q14b, q14c⟩ := isOf hZ rfl ((E_b11.keep K12).keep (own_keep e13))
  obtain ⟨_, _, ⟨T14, L14, k14, n14⟩, -, X14, ⟨Lc14, hQ14, l14, y14, z14⟩, st14⟩ := X13.virtualBack hx (y := (⟨"com/example/coho/coho/topology/Point", "squaredDistance", "(Lcom/example/coho/coho/topology/Point;)D"⟩ : MethodName)) (z := (⟨"com/example/coho/coho/topology/Point", "squaredDistance", "(Lcom/example/coho/coho/topology/Point;)D"⟩ : MethodName)) hown (mvT hZ (hw _ (List.mem_of_getElem? (i := 33) rfl))) (mvT hZ (hw _ (List.mem_of_getElem? (i := 34) rfl))) (notFace_of_selects (args := #[]) (mvT hZ (hw _ (List.mem_of_getElem? (i := 36) rfl)))) (mvT hZ (hw _ (List.mem_of_getElem? (i := 36) rfl))) (mvT hZ (hw _ (List.mem_of_getElem? (i := 35) rfl))) (by decide) (backOf (W := 0) (rm7 l Z a0 hw [] b11 b9 (own_q (own_s p3)) (own_q (own_s p1)) (own_q (own_s p4)) (own_q (own_s p2)) T13.heap n0 (own_sz e13 Z12) h14.1 h14.2.1 h14.2.2.1 h14.2.2.2.1 h14.2.2.2.2.1 (Fx12.keep k13 (by simp)) (Gx.keep k13 (by simp)) (Fy12.keep k13 (by simp)) (Gy.keep k13 (by simp))) hZ (hw _ (List.mem_of_getElem? (i := 37) rfl)) (hw _ (List.mem_of_getElem? (i := 6) rfl)) (by decide) (by decide)) q14a q14c (g := (mkF m 127 #[.val (.int p1), .val (.int p2), .val (.int p3), .val (.int p4), .val (.int (own_s p1)), .val (.int (own_s p2)), .val (.int (own_s p3)), .val (.int (own_s p4)), .val (.ref b9), .val (.ref b11), .val (.long (((own_s p1).toInt64) - ((own_s p3).toInt64))), .second, .val (.long (((own_s p2).toInt64) - ((own_s p4).toInt64))), .second, .val (.long (own_R (own_s p1) (own_s p2) (own_s p3) (own_s p4))), .second, .val (.double (FP.ddiv (FP.l2d (own_R (own_s p1) (own_s p2) (own_s p3) (own_s p4))) (4625196817309499392 : UInt64))), .second] [(.ref b9), (.ref b11)])) rfl (by rw [hml]; rfl) (Steps.refl _) (argsL := [(.ref b9)]) (rest := []) (lenOf pd_0_5 rfl) rfl (by show 2 * 0 + _ ≤ _; exact Nat.le_of_eq rfl) (hb hby at_127) (fun _ _ => ⟨rfl, rfl, (by decide : 2 + 0 ≤ _), (by decide : 4 + 0 ≤ _)⟩)
  dsimp only [Pt.U, Pt.locs, Pt.cells, Pt.slots] at X14 l14 y14 z14 st14 hQ14
  subst l14 y14 z14
  obtain ⟨rfl, N14q, e14⟩ := hQ14
  have N14 := Fr.app N13 N14q
  obtain ⟨fs, hr, hrun, hended, hW, hsame⟩ := X14.leave (v := some (.int (1 : Int32))) (fun h => by rw [Bd.returns] at h; cases h)
  refine ⟨_, _, pre0 _ ?_, hrun, hended, _, _, rfl, ?_, ⟨_, rfl⟩, hW, hsame.mono (by decide) (by decide)⟩
  · show Steps p.tables e below (s₁.setTop (mkF m 0 #[.val (.int p1), .val (.int p2), .val (.int p3), .val (.int p4), .unset, .unset, .unset, .unset, .unset, .unset, .unset, .unset, .unset, .unset, .unset, .unset, .unset, .unset] [])) _
    refine XS.iloadN X0.here hx rfl (hb hby at_0) rfl ?_
    show Steps p.tables e below (s₁.setTop (mkF m 1 #[.val (.int p1), .val (.int p2), .val (.int p3), .val (.int p4), .unset, .unset, .unset, .unset, .unset, .unset, .unset, .unset, .unset, .unset, .unset, .unset, .unset, .unset] [(.int p1)])) _
    refine st5 _ ?_
    show Steps p.tables e below (T5.setTop (mkF m 4 #[.val (.int p1), .val (.int p2), .val (.int p3), .val (.int p4), .unset, .unset, .unset, .unset, .unset, .unset, .unset, .unset, .unset, .unset, .unset, .unset, .unset, .unset] [(.int (own_s p1))])) _
    refine XS.istore X5.here hx rfl (hb hby at_4) rfl (l' := #[.val (.int p1), .val (.int p2), .val (.int p3), .val (.int p4), .val (.int (own_s p1)), .unset, .unset, .unset, .unset, .unset, .unset, .unset, .unset, .unset, .unset, .unset, .unset, .unset]) rfl ?_
    show Steps p.tables e below (T5.setTop (mkF m 6 #[.val (.int p1), .val (.int p2), .val (.int p3), .val (.int p4), .val (.int (own_s p1)), .unset, .unset, .unset, .unset, .unset, .unset, .unset, .unset, .unset, .unset, .unset, .unset, .unset] [])) _
    refine XS.iloadN X5.here hx rfl (hb hby at_6) rfl ?_
    show Steps p.tables e below (T5.setTop (mkF m 7 #[.val (.int p1), .val (.int p2), .val (.int p3), .val (.int p4), .val (.int (own_s p1)), .unset, .unset, .unset, .unset, .unset, .unset, .unset, .unset, .unset, .unset, .unset, .unset, .unset] [(.int p2)])) _
    refine st6 _ ?_
    show Steps p.tables e below (T6.setTop (mkF m 10 #[.val (.int p1), .val (.int p2), .val (.int p3), .val (.int p4), .val (.int (own_s p1)), .unset, .unset, .unset, .unset, .unset, .unset, .unset, .unset, .unset, .unset, .unset, .unset, .unset] [(.int (own_s p2))])) _
    refine XS.istore X6.here hx rfl (hb hby at_10) rfl (l' := #[.val (.int p1), .val (.int p2), .val (.int p3), .val (.int p4), .val (.int (own_s p1)), .val (.int (own_s p2)), .unset, .unset, .unset, .unset, .unset, .unset, .unset, .unset, .unset, .unset, .unset, .unset]) rfl ?_
    show Steps p.tables e below (T6.setTop (mkF m 12 #[.val (.int p1), .val (.int p2), .val (.int p3), .val (.int p4), .val (.int (own_s p1)), .val (.int (own_s p2)), .unset, .unset, .unset, .unset, .unset, .unset, .unset, .unset, .unset, .unset, .unset, .unset] [])) _
    refine XS.iloadN X6.here hx rfl (hb hby at_12) rfl ?_
    show Steps p.tables e below (T6.setTop (mkF m 13 #[.val (.int p1), .val (.int p2), .val (.int p3), .val (.int p4), .val (.int (own_s p1)), .val (.int (own_s p2)), .unset, .unset, .unset, .unset, .unset, .unset, .unset, .unset, .unset, .unset, .unset, .unset] [(.int p3)])) _
    refine st7 _ ?_
    show Steps p.tables e below (T7.setTop (mkF m 16 #[.val (.int p1), .val (.int p2), .val (.int p3), .val (.int p4), .val (.int (own_s p1)), .val (.int (own_s p2)), .unset, .unset, .unset, .unset, .unset, .unset, .unset, .unset, .unset, .unset, .unset, .unset] [(.int (own_s p3))])) _
    refine XS.istore X7.here hx rfl (hb hby at_16) rfl (l' := #[.val (.int p1), .val (.int p2), .val (.int p3), .val (.int p4), .val (.int (own_s p1)), .val (.int (own_s p2)), .val (.int (own_s p3)), .unset, .unset, .unset, .unset, .unset, .unset, .unset, .unset, .unset, .unset, .unset]) rfl ?_
    show Steps p.tables e below (T7.setTop (mkF m 18 #[.val (.int p1), .val (.int p2), .val (.int p3), .val (.int p4), .val (.int (own_s p1)), .val (.int (own_s p2)), .val (.int (own_s p3)), .unset, .unset, .unset, .unset, .unset, .unset, .unset, .unset, .unset, .unset, .unset] [])) _
    refine XS.iloadN X7.here hx rfl (hb hby at_18) rfl ?_
    show Steps p.tables e below (T7.setTop (mkF m 19 #[.val (.int p1), .val (.int p2), .val (.int p3), .val (.int p4), .val (.int (own_s p1)), .val (.int (own_s p2)), .val (.int (own_s p3)), .unset, .unset, .unset, .unset, .unset, .unset, .unset, .unset, .unset, .unset, .unset] [(.int p4)])) _
    refine st8 _ ?_
    show Steps p.tables e below (T8.setTop (mkF m 22 #[.val (.int p1), .val (.int p2), .val (.int p3), .val (.int p4), .val (.int (own_s p1)), .val (.int (own_s p2)), .val (.int (own_s p3)), .unset, .unset, .unset, .unset, .unset, .unset, .unset, .unset, .unset, .unset, .unset] [(.int (own_s p4))])) _
    refine XS.istore X8.here hx rfl (hb hby at_22) rfl (l' := #[.val (.int p1), .val (.int p2), .val (.int p3), .val (.int p4), .val (.int (own_s p1)), .val (.int (own_s p2)), .val (.int (own_s p3)), .val (.int (own_s p4)), .unset, .unset, .unset, .unset, .unset, .unset, .unset, .unset, .unset, .unset]) rfl ?_
    show Steps p.tables e below (T8.setTop (mkF m 24 #[.val (.int p1), .val (.int p2), .val (.int p3), .val (.int p4), .val (.int (own_s p1)), .val (.int (own_s p2)), .val (.int (own_s p3)), .val (.int (own_s p4)), .unset, .unset, .unset, .unset, .unset, .unset, .unset, .unset, .unset, .unset] [])) _
    refine st9 _ ?_
    show Steps p.tables e below (T9.setTop (mkF m 27 #[.val (.int p1), .val (.int p2), .val (.int p3), .val (.int p4), .val (.int (own_s p1)), .val (.int (own_s p2)), .val (.int (own_s p3)), .val (.int (own_s p4)), .unset, .unset, .unset, .unset, .unset, .unset, .unset, .unset, .unset, .unset] [(.ref b9)])) _
    refine XS.dup X9.here hx rfl (hb hby at_27) rfl rfl ?_
    show Steps p.tables e below (T9.setTop (mkF m 28 #[.val (.int p1), .val (.int p2), .val (.int p3), .val (.int p4), .val (.int (own_s p1)), .val (.int (own_s p2)), .val (.int (own_s p3)), .val (.int (own_s p4)), .unset, .unset, .unset, .unset, .unset, .unset, .unset, .unset, .unset, .unset] [(.ref b9), (.ref b9)])) _
    refine XS.iload X9.here hx rfl (hb hby at_28) rfl ?_
    show Steps p.tables e below (T9.setTop (mkF m 30 #[.val (.int p1), .val (.int p2), .val (.int p3), .val (.int p4), .val (.int (own_s p1)), .val (.int (own_s p2)), .val (.int (own_s p3)), .val (.int (own_s p4)), .unset, .unset, .unset, .unset, .unset, .unset, .unset, .unset, .unset, .unset] [(.int (own_s p1)), (.ref b9), (.ref b9)])) _
    refine XS.i2dS X9.here hx rfl (hb hby at_30) rfl rfl ?_
    show Steps p.tables e below (T9.setTop (mkF m 31 #[.val (.int p1), .val (.int p2), .val (.int p3), .val (.int p4), .val (.int (own_s p1)), .val (.int (own_s p2)), .val (.int (own_s p3)), .val (.int (own_s p4)), .unset, .unset, .unset, .unset, .unset, .unset, .unset, .unset, .unset, .unset] [(.double (FP.i2d (own_s p1))), (.ref b9), (.ref b9)])) _
    refine X9.ldc2DoubleC hx hown (mvT hZ (hw _ (List.mem_of_getElem? (i := 7) rfl))) (g := (mkF m 31 #[.val (.int p1), .val (.int p2), .val (.int p3), .val (.int p4), .val (.int (own_s p1)), .val (.int (own_s p2)), .val (.int (own_s p3)), .val (.int (own_s p4)), .unset, .unset, .unset, .unset, .unset, .unset, .unset, .unset, .unset, .unset] [(.double (FP.i2d (own_s p1))), (.ref b9), (.ref b9)])) rfl (hb hby at_31) _ ?_
    show Steps p.tables e below (T9.setTop (mkF m 34 #[.val (.int p1), .val (.int p2), .val (.int p3), .val (.int p4), .val (.int (own_s p1)), .val (.int (own_s p2)), .val (.int (own_s p3)), .val (.int (own_s p4)), .unset, .unset, .unset, .unset, .unset, .unset, .unset, .unset, .unset, .unset] [(.double (4616189618054758400 : UInt64)), (.double (FP.i2d (own_s p1))), (.ref b9), (.ref b9)])) _
    refine XS.ddivS X9.here hx rfl (hb hby at_34) rfl (own_D_nn (own_q_D p1)) rfl ?_
    show Steps p.tables e below (T9.setTop (mkF m 35 #[.val (.int p1), .val (.int p2), .val (.int p3), .val (.int p4), .val (.int (own_s p1)), .val (.int (own_s p2)), .val (.int (own_s p3)), .val (.int (own_s p4)), .unset, .unset, .unset, .unset, .unset, .unset, .unset, .unset, .unset, .unset] [(.double (own_q (own_s p1))), (.ref b9), (.ref b9)])) _
    refine XS.iload X9.here hx rfl (hb hby at_35) rfl ?_
    show Steps p.tables e below (T9.setTop (mkF m 37 #[.val (.int p1), .val (.int p2), .val (.int p3), .val (.int p4), .val (.int (own_s p1)), .val (.int (own_s p2)), .val (.int (own_s p3)), .val (.int (own_s p4)), .unset, .unset, .unset, .unset, .unset, .unset, .unset, .unset, .unset, .unset] [(.int (own_s p2)), (.double (own_q (own_s p1))), (.ref b9), (.ref b9)])) _
    refine XS.i2dS X9.here hx rfl (hb hby at_37) rfl rfl ?_
    show Steps p.tables e below (T9.setTop (mkF m 38 #[.val (.int p1), .val (.int p2), .val (.int p3), .val (.int p4), .val (.int (own_s p1)), .val (.int (own_s p2)), .val (.int (own_s p3)), .val (.int (own_s p4)), .unset, .unset, .unset, .unset, .unset, .unset, .unset, .unset, .unset, .unset] [(.double (FP.i2d (own_s p2))), (.double (own_q (own_s p1))), (.ref b9), (.ref b9)])) _
    refine X9.ldc2DoubleC hx hown (mvT hZ (hw _ (List.mem_of_getElem? (i := 7) rfl))) (g := (mkF m 38 #[.val (.int p1), .val (.int p2), .val (.int p3), .val (.int p4), .val (.int (own_s p1)), .val (.int (own_s p2)), .val (.int (own_s p3)), .val (.int (own_s p4)), .unset, .unset, .unset, .unset, .unset, .unset, .unset, .unset, .unset, .unset] [(.double (FP.i2d (own_s p2))), (.double (own_q (own_s p1))), (.ref b9), (.ref b9)])) rfl (hb hby at_38) _ ?_
    show Steps p.tables e below (T9.setTop (mkF m 41 #[.val (.int p1), .val (.int p2), .val (.int p3), .val (.int p4), .val (.int (own_s p1)), .val (.int (own_s p2)), .val (.int (own_s p3)), .val (.int (own_s p4)), .unset, .unset, .unset, .unset, .unset, .unset, .unset, .unset, .unset, .unset] [(.double (4616189618054758400 : UInt64)), (.double (FP.i2d (own_s p2))), (.double (own_q (own_s p1))), (.ref b9), (.ref b9)])) _
    refine XS.ddivS X9.here hx rfl (hb hby at_41) rfl (own_D_nn (own_q_D p2)) rfl ?_
    show Steps p.tables e below (T9.setTop (mkF m 42 #[.val (.int p1), .val (.int p2), .val (.int p3), .val (.int p4), .val (.int (own_s p1)), .val (.int (own_s p2)), .val (.int (own_s p3)), .val (.int (own_s p4)), .unset, .unset, .unset, .unset, .unset, .unset, .unset, .unset, .unset, .unset] [(.double (own_q (own_s p2))), (.double (own_q (own_s p1))), (.ref b9), (.ref b9)])) _
    refine st10.trans ?_
    show Steps p.tables e below (T10.setTop (mkF m 45 #[.val (.int p1), .val (.int p2), .val (.int p3), .val (.int p4), .val (.int (own_s p1)), .val (.int (own_s p2)), .val (.int (own_s p3)), .val (.int (own_s p4)), .unset, .unset, .unset, .unset, .unset, .unset, .unset, .unset, .unset, .unset] [(.ref b9)])) _
    refine XS.astore X10.here hx rfl (hb hby at_45) rfl rfl (l' := #[.val (.int p1), .val (.int p2), .val (.int p3), .val (.int p4), .val (.int (own_s p1)), .val (.int (own_s p2)), .val (.int (own_s p3)), .val (.int (own_s p4)), .val (.ref b9), .unset, .unset, .unset, .unset, .unset, .unset, .unset, .unset, .unset]) rfl ?_
    show Steps p.tables e below (T10.setTop (mkF m 47 #[.val (.int p1), .val (.int p2), .val (.int p3), .val (.int p4), .val (.int (own_s p1)), .val (.int (own_s p2)), .val (.int (own_s p3)), .val (.int (own_s p4)), .val (.ref b9), .unset, .unset, .unset, .unset, .unset, .unset, .unset, .unset, .unset] [])) _
    refine st11 _ ?_
    show Steps p.tables e below (T11.setTop (mkF m 50 #[.val (.int p1), .val (.int p2), .val (.int p3), .val (.int p4), .val (.int (own_s p1)), .val (.int (own_s p2)), .val (.int (own_s p3)), .val (.int (own_s p4)), .val (.ref b9), .unset, .unset, .unset, .unset, .unset, .unset, .unset, .unset, .unset] [(.ref b11)])) _
    refine XS.dup X11.here hx rfl (hb hby at_50) rfl rfl ?_
    show Steps p.tables e below (T11.setTop (mkF m 51 #[.val (.int p1), .val (.int p2), .val (.int p3), .val (.int p4), .val (.int (own_s p1)), .val (.int (own_s p2)), .val (.int (own_s p3)), .val (.int (own_s p4)), .val (.ref b9), .unset, .unset, .unset, .unset, .unset, .unset, .unset, .unset, .unset] [(.ref b11), (.ref b11)])) _
    refine XS.iload X11.here hx rfl (hb hby at_51) rfl ?_
    show Steps p.tables e below (T11.setTop (mkF m 53 #[.val (.int p1), .val (.int p2), .val (.int p3), .val (.int p4), .val (.int (own_s p1)), .val (.int (own_s p2)), .val (.int (own_s p3)), .val (.int (own_s p4)), .val (.ref b9), .unset, .unset, .unset, .unset, .unset, .unset, .unset, .unset, .unset] [(.int (own_s p3)), (.ref b11), (.ref b11)])) _
    refine XS.i2dS X11.here hx rfl (hb hby at_53) rfl rfl ?_
    show Steps p.tables e below (T11.setTop (mkF m 54 #[.val (.int p1), .val (.int p2), .val (.int p3), .val (.int p4), .val (.int (own_s p1)), .val (.int (own_s p2)), .val (.int (own_s p3)), .val (.int (own_s p4)), .val (.ref b9), .unset, .unset, .unset, .unset, .unset, .unset, .unset, .unset, .unset] [(.double (FP.i2d (own_s p3))), (.ref b11), (.ref b11)])) _
    refine X11.ldc2DoubleC hx hown (mvT hZ (hw _ (List.mem_of_getElem? (i := 7) rfl))) (g := (mkF m 54 #[.val (.int p1), .val (.int p2), .val (.int p3), .val (.int p4), .val (.int (own_s p1)), .val (.int (own_s p2)), .val (.int (own_s p3)), .val (.int (own_s p4)), .val (.ref b9), .unset, .unset, .unset, .unset, .unset, .unset, .unset, .unset, .unset] [(.double (FP.i2d (own_s p3))), (.ref b11), (.ref b11)])) rfl (hb hby at_54) _ ?_
    show Steps p.tables e below (T11.setTop (mkF m 57 #[.val (.int p1), .val (.int p2), .val (.int p3), .val (.int p4), .val (.int (own_s p1)), .val (.int (own_s p2)), .val (.int (own_s p3)), .val (.int (own_s p4)), .val (.ref b9), .unset, .unset, .unset, .unset, .unset, .unset, .unset, .unset, .unset] [(.double (4616189618054758400 : UInt64)), (.double (FP.i2d (own_s p3))), (.ref b11), (.ref b11)])) _
    refine XS.ddivS X11.here hx rfl (hb hby at_57) rfl (own_D_nn (own_q_D p3)) rfl ?_
    show Steps p.tables e below (T11.setTop (mkF m 58 #[.val (.int p1), .val (.int p2), .val (.int p3), .val (.int p4), .val (.int (own_s p1)), .val (.int (own_s p2)), .val (.int (own_s p3)), .val (.int (own_s p4)), .val (.ref b9), .unset, .unset, .unset, .unset, .unset, .unset, .unset, .unset, .unset] [(.double (own_q (own_s p3))), (.ref b11), (.ref b11)])) _
    refine XS.iload X11.here hx rfl (hb hby at_58) rfl ?_
    show Steps p.tables e below (T11.setTop (mkF m 60 #[.val (.int p1), .val (.int p2), .val (.int p3), .val (.int p4), .val (.int (own_s p1)), .val (.int (own_s p2)), .val (.int (own_s p3)), .val (.int (own_s p4)), .val (.ref b9), .unset, .unset, .unset, .unset, .unset, .unset, .unset, .unset, .unset] [(.int (own_s p4)), (.double (own_q (own_s p3))), (.ref b11), (.ref b11)])) _
    refine XS.i2dS X11.here hx rfl (hb hby at_60) rfl rfl ?_
    show Steps p.tables e below (T11.setTop (mkF m 61 #[.val (.int p1), .val (.int p2), .val (.int p3), .val (.int p4), .val (.int (own_s p1)), .val (.int (own_s p2)), .val (.int (own_s p3)), .val (.int (own_s p4)), .val (.ref b9), .unset, .unset, .unset, .unset, .unset, .unset, .unset, .unset, .unset] [(.double (FP.i2d (own_s p4))), (.double (own_q (own_s p3))), (.ref b11), (.ref b11)])) _
    refine X11.ldc2DoubleC hx hown (mvT hZ (hw _ (List.mem_of_getElem? (i := 7) rfl))) (g := (mkF m 61 #[.val (.int p1), .val (.int p2), .val (.int p3), .val (.int p4), .val (.int (own_s p1)), .val (.int (own_s p2)), .val (.int (own_s p3)), .val (.int (own_s p4)), .val (.ref b9), .unset, .unset, .unset, .unset, .unset, .unset, .unset, .unset, .unset] [(.double (FP.i2d (own_s p4))), (.double (own_q (own_s p3))), (.ref b11), (.ref b11)])) rfl (hb hby at_61) _ ?_
    show Steps p.tables e below (T11.setTop (mkF m 64 #[.val (.int p1), .val (.int p2), .val (.int p3), .val (.int p4), .val (.int (own_s p1)), .val (.int (own_s p2)), .val (.int (own_s p3)), .val (.int (own_s p4)), .val (.ref b9), .unset, .unset, .unset, .unset, .unset, .unset, .unset, .unset, .unset] [(.double (4616189618054758400 : UInt64)), (.double (FP.i2d (own_s p4))), (.double (own_q (own_s p3))), (.ref b11), (.ref b11)])) _
    refine XS.ddivS X11.here hx rfl (hb hby at_64) rfl (own_D_nn (own_q_D p4)) rfl ?_
    show Steps p.tables e below (T11.setTop (mkF m 65 #[.val (.int p1), .val (.int p2), .val (.int p3), .val (.int p4), .val (.int (own_s p1)), .val (.int (own_s p2)), .val (.int (own_s p3)), .val (.int (own_s p4)), .val (.ref b9), .unset, .unset, .unset, .unset, .unset, .unset, .unset, .unset, .unset] [(.double (own_q (own_s p4))), (.double (own_q (own_s p3))), (.ref b11), (.ref b11)])) _
    refine st12.trans ?_
    show Steps p.tables e below (T12.setTop (mkF m 68 #[.val (.int p1), .val (.int p2), .val (.int p3), .val (.int p4), .val (.int (own_s p1)), .val (.int (own_s p2)), .val (.int (own_s p3)), .val (.int (own_s p4)), .val (.ref b9), .unset, .unset, .unset, .unset, .unset, .unset, .unset, .unset, .unset] [(.ref b11)])) _
    refine XS.astore X12.here hx rfl (hb hby at_68) rfl rfl (l' := #[.val (.int p1), .val (.int p2), .val (.int p3), .val (.int p4), .val (.int (own_s p1)), .val (.int (own_s p2)), .val (.int (own_s p3)), .val (.int (own_s p4)), .val (.ref b9), .val (.ref b11), .unset, .unset, .unset, .unset, .unset, .unset, .unset, .unset]) rfl ?_
    show Steps p.tables e below (T12.setTop (mkF m 70 #[.val (.int p1), .val (.int p2), .val (.int p3), .val (.int p4), .val (.int (own_s p1)), .val (.int (own_s p2)), .val (.int (own_s p3)), .val (.int (own_s p4)), .val (.ref b9), .val (.ref b11), .unset, .unset, .unset, .unset, .unset, .unset, .unset, .unset] [])) _
    refine XS.iload X12.here hx rfl (hb hby at_70) rfl ?_
    show Steps p.tables e below (T12.setTop (mkF m 72 #[.val (.int p1), .val (.int p2), .val (.int p3), .val (.int p4), .val (.int (own_s p1)), .val (.int (own_s p2)), .val (.int (own_s p3)), .val (.int (own_s p4)), .val (.ref b9), .val (.ref b11), .unset, .unset, .unset, .unset, .unset, .unset, .unset, .unset] [(.int (own_s p1))])) _
    refine XS.i2l X12.here hx rfl (hb hby at_72) rfl ?_
    show Steps p.tables e below (T12.setTop (mkF m 73 #[.val (.int p1), .val (.int p2), .val (.int p3), .val (.int p4), .val (.int (own_s p1)), .val (.int (own_s p2)), .val (.int (own_s p3)), .val (.int (own_s p4)), .val (.ref b9), .val (.ref b11), .unset, .unset, .unset, .unset, .unset, .unset, .unset, .unset] [(.long ((own_s p1).toInt64))])) _
    refine XS.iload X12.here hx rfl (hb hby at_73) rfl ?_
    show Steps p.tables e below (T12.setTop (mkF m 75 #[.val (.int p1), .val (.int p2), .val (.int p3), .val (.int p4), .val (.int (own_s p1)), .val (.int (own_s p2)), .val (.int (own_s p3)), .val (.int (own_s p4)), .val (.ref b9), .val (.ref b11), .unset, .unset, .unset, .unset, .unset, .unset, .unset, .unset] [(.int (own_s p3)), (.long ((own_s p1).toInt64))])) _
    refine XS.i2l X12.here hx rfl (hb hby at_75) rfl ?_
    show Steps p.tables e below (T12.setTop (mkF m 76 #[.val (.int p1), .val (.int p2), .val (.int p3), .val (.int p4), .val (.int (own_s p1)), .val (.int (own_s p2)), .val (.int (own_s p3)), .val (.int (own_s p4)), .val (.ref b9), .val (.ref b11), .unset, .unset, .unset, .unset, .unset, .unset, .unset, .unset] [(.long ((own_s p3).toInt64)), (.long ((own_s p1).toInt64))])) _
    refine XS.lsub X12.here hx rfl (hb hby at_76) rfl ?_
    show Steps p.tables e below (T12.setTop (mkF m 77 #[.val (.int p1), .val (.int p2), .val (.int p3), .val (.int p4), .val (.int (own_s p1)), .val (.int (own_s p2)), .val (.int (own_s p3)), .val (.int (own_s p4)), .val (.ref b9), .val (.ref b11), .unset, .unset, .unset, .unset, .unset, .unset, .unset, .unset] [(.long (((own_s p1).toInt64) - ((own_s p3).toInt64)))])) _
    refine XS.lstore X12.here hx rfl (hb hby at_77) rfl (l' := #[.val (.int p1), .val (.int p2), .val (.int p3), .val (.int p4), .val (.int (own_s p1)), .val (.int (own_s p2)), .val (.int (own_s p3)), .val (.int (own_s p4)), .val (.ref b9), .val (.ref b11), .val (.long (((own_s p1).toInt64) - ((own_s p3).toInt64))), .second, .unset, .unset, .unset, .unset, .unset, .unset]) rfl ?_
    show Steps p.tables e below (T12.setTop (mkF m 79 #[.val (.int p1), .val (.int p2), .val (.int p3), .val (.int p4), .val (.int (own_s p1)), .val (.int (own_s p2)), .val (.int (own_s p3)), .val (.int (own_s p4)), .val (.ref b9), .val (.ref b11), .val (.long (((own_s p1).toInt64) - ((own_s p3).toInt64))), .second, .unset, .unset, .unset, .unset, .unset, .unset] [])) _
    refine XS.iload X12.here hx rfl (hb hby at_79) rfl ?_
    show Steps p.tables e below (T12.setTop (mkF m 81 #[.val (.int p1), .val (.int p2), .val (.int p3), .val (.int p4), .val (.int (own_s p1)), .val (.int (own_s p2)), .val (.int (own_s p3)), .val (.int (own_s p4)), .val (.ref b9), .val (.ref b11), .val (.long (((own_s p1).toInt64) - ((own_s p3).toInt64))), .second, .unset, .unset, .unset, .unset, .unset, .unset] [(.int (own_s p2))])) _
    refine XS.i2l X12.here hx rfl (hb hby at_81) rfl ?_
    show Steps p.tables e below (T12.setTop (mkF m 82 #[.val (.int p1), .val (.int p2), .val (.int p3), .val (.int p4), .val (.int (own_s p1)), .val (.int (own_s p2)), .val (.int (own_s p3)), .val (.int (own_s p4)), .val (.ref b9), .val (.ref b11), .val (.long (((own_s p1).toInt64) - ((own_s p3).toInt64))), .second, .unset, .unset, .unset, .unset, .unset, .unset] [(.long ((own_s p2).toInt64))])) _
    refine XS.iload X12.here hx rfl (hb hby at_82) rfl ?_
    show Steps p.tables e below (T12.setTop (mkF m 84 #[.val (.int p1), .val (.int p2), .val (.int p3), .val (.int p4), .val (.int (own_s p1)), .val (.int (own_s p2)), .val (.int (own_s p3)), .val (.int (own_s p4)), .val (.ref b9), .val (.ref b11), .val (.long (((own_s p1).toInt64) - ((own_s p3).toInt64))), .second, .unset, .unset, .unset, .unset, .unset, .unset] [(.int (own_s p4)), (.long ((own_s p2).toInt64))])) _
    refine XS.i2l X12.here hx rfl (hb hby at_84) rfl ?_
    show Steps p.tables e below (T12.setTop (mkF m 85 #[.val (.int p1), .val (.int p2), .val (.int p3), .val (.int p4), .val (.int (own_s p1)), .val (.int (own_s p2)), .val (.int (own_s p3)), .val (.int (own_s p4)), .val (.ref b9), .val (.ref b11), .val (.long (((own_s p1).toInt64) - ((own_s p3).toInt64))), .second, .unset, .unset, .unset, .unset, .unset, .unset] [(.long ((own_s p4).toInt64)), (.long ((own_s p2).toInt64))])) _
    refine XS.lsub X12.here hx rfl (hb hby at_85) rfl ?_
    show Steps p.tables e below (T12.setTop (mkF m 86 #[.val (.int p1), .val (.int p2), .val (.int p3), .val (.int p4), .val (.int (own_s p1)), .val (.int (own_s p2)), .val (.int (own_s p3)), .val (.int (own_s p4)), .val (.ref b9), .val (.ref b11), .val (.long (((own_s p1).toInt64) - ((own_s p3).toInt64))), .second, .unset, .unset, .unset, .unset, .unset, .unset] [(.long (((own_s p2).toInt64) - ((own_s p4).toInt64)))])) _
    refine XS.lstore X12.here hx rfl (hb hby at_86) rfl (l' := #[.val (.int p1), .val (.int p2), .val (.int p3), .val (.int p4), .val (.int (own_s p1)), .val (.int (own_s p2)), .val (.int (own_s p3)), .val (.int (own_s p4)), .val (.ref b9), .val (.ref b11), .val (.long (((own_s p1).toInt64) - ((own_s p3).toInt64))), .second, .val (.long (((own_s p2).toInt64) - ((own_s p4).toInt64))), .second, .unset, .unset, .unset, .unset]) rfl ?_
    show Steps p.tables e below (T12.setTop (mkF m 88 #[.val (.int p1), .val (.int p2), .val (.int p3), .val (.int p4), .val (.int (own_s p1)), .val (.int (own_s p2)), .val (.int (own_s p3)), .val (.int (own_s p4)), .val (.ref b9), .val (.ref b11), .val (.long (((own_s p1).toInt64) - ((own_s p3).toInt64))), .second, .val (.long (((own_s p2).toInt64) - ((own_s p4).toInt64))), .second, .unset, .unset, .unset, .unset] [])) _
    refine XS.lload X12.here hx rfl (hb hby at_88) rfl ?_
    show Steps p.tables e below (T12.setTop (mkF m 90 #[.val (.int p1), .val (.int p2), .val (.int p3), .val (.int p4), .val (.int (own_s p1)), .val (.int (own_s p2)), .val (.int (own_s p3)), .val (.int (own_s p4)), .val (.ref b9), .val (.ref b11), .val (.long (((own_s p1).toInt64) - ((own_s p3).toInt64))), .second, .val (.long (((own_s p2).toInt64) - ((own_s p4).toInt64))), .second, .unset, .unset, .unset, .unset] [(.long (((own_s p1).toInt64) - ((own_s p3).toInt64)))])) _
    refine XS.lload X12.here hx rfl (hb hby at_90) rfl ?_
    show Steps p.tables e below (T12.setTop (mkF m 92 #[.val (.int p1), .val (.int p2), .val (.int p3), .val (.int p4), .val (.int (own_s p1)), .val (.int (own_s p2)), .val (.int (own_s p3)), .val (.int (own_s p4)), .val (.ref b9), .val (.ref b11), .val (.long (((own_s p1).toInt64) - ((own_s p3).toInt64))), .second, .val (.long (((own_s p2).toInt64) - ((own_s p4).toInt64))), .second, .unset, .unset, .unset, .unset] [(.long (((own_s p1).toInt64) - ((own_s p3).toInt64))), (.long (((own_s p1).toInt64) - ((own_s p3).toInt64)))])) _
    refine XS.lmul X12.here hx rfl (hb hby at_92) rfl ?_
    show Steps p.tables e below (T12.setTop (mkF m 93 #[.val (.int p1), .val (.int p2), .val (.int p3), .val (.int p4), .val (.int (own_s p1)), .val (.int (own_s p2)), .val (.int (own_s p3)), .val (.int (own_s p4)), .val (.ref b9), .val (.ref b11), .val (.long (((own_s p1).toInt64) - ((own_s p3).toInt64))), .second, .val (.long (((own_s p2).toInt64) - ((own_s p4).toInt64))), .second, .unset, .unset, .unset, .unset] [(.long ((((own_s p1).toInt64) - ((own_s p3).toInt64)) * (((own_s p1).toInt64) - ((own_s p3).toInt64))))])) _
    refine XS.lload X12.here hx rfl (hb hby at_93) rfl ?_
    show Steps p.tables e below (T12.setTop (mkF m 95 #[.val (.int p1), .val (.int p2), .val (.int p3), .val (.int p4), .val (.int (own_s p1)), .val (.int (own_s p2)), .val (.int (own_s p3)), .val (.int (own_s p4)), .val (.ref b9), .val (.ref b11), .val (.long (((own_s p1).toInt64) - ((own_s p3).toInt64))), .second, .val (.long (((own_s p2).toInt64) - ((own_s p4).toInt64))), .second, .unset, .unset, .unset, .unset] [(.long (((own_s p2).toInt64) - ((own_s p4).toInt64))), (.long ((((own_s p1).toInt64) - ((own_s p3).toInt64)) * (((own_s p1).toInt64) - ((own_s p3).toInt64))))])) _
    refine XS.lload X12.here hx rfl (hb hby at_95) rfl ?_
    show Steps p.tables e below (T12.setTop (mkF m 97 #[.val (.int p1), .val (.int p2), .val (.int p3), .val (.int p4), .val (.int (own_s p1)), .val (.int (own_s p2)), .val (.int (own_s p3)), .val (.int (own_s p4)), .val (.ref b9), .val (.ref b11), .val (.long (((own_s p1).toInt64) - ((own_s p3).toInt64))), .second, .val (.long (((own_s p2).toInt64) - ((own_s p4).toInt64))), .second, .unset, .unset, .unset, .unset] [(.long (((own_s p2).toInt64) - ((own_s p4).toInt64))), (.long (((own_s p2).toInt64) - ((own_s p4).toInt64))), (.long ((((own_s p1).toInt64) - ((own_s p3).toInt64)) * (((own_s p1).toInt64) - ((own_s p3).toInt64))))])) _
    refine XS.lmul X12.here hx rfl (hb hby at_97) rfl ?_
    show Steps p.tables e below (T12.setTop (mkF m 98 #[.val (.int p1), .val (.int p2), .val (.int p3), .val (.int p4), .val (.int (own_s p1)), .val (.int (own_s p2)), .val (.int (own_s p3)), .val (.int (own_s p4)), .val (.ref b9), .val (.ref b11), .val (.long (((own_s p1).toInt64) - ((own_s p3).toInt64))), .second, .val (.long (((own_s p2).toInt64) - ((own_s p4).toInt64))), .second, .unset, .unset, .unset, .unset] [(.long ((((own_s p2).toInt64) - ((own_s p4).toInt64)) * (((own_s p2).toInt64) - ((own_s p4).toInt64)))), (.long ((((own_s p1).toInt64) - ((own_s p3).toInt64)) * (((own_s p1).toInt64) - ((own_s p3).toInt64))))])) _
    refine XS.ladd X12.here hx rfl (hb hby at_98) rfl ?_
    show Steps p.tables e below (T12.setTop (mkF m 99 #[.val (.int p1), .val (.int p2), .val (.int p3), .val (.int p4), .val (.int (own_s p1)), .val (.int (own_s p2)), .val (.int (own_s p3)), .val (.int (own_s p4)), .val (.ref b9), .val (.ref b11), .val (.long (((own_s p1).toInt64) - ((own_s p3).toInt64))), .second, .val (.long (((own_s p2).toInt64) - ((own_s p4).toInt64))), .second, .unset, .unset, .unset, .unset] [(.long (own_R (own_s p1) (own_s p2) (own_s p3) (own_s p4)))])) _
    refine XS.lstore X12.here hx rfl (hb hby at_99) rfl (l' := #[.val (.int p1), .val (.int p2), .val (.int p3), .val (.int p4), .val (.int (own_s p1)), .val (.int (own_s p2)), .val (.int (own_s p3)), .val (.int (own_s p4)), .val (.ref b9), .val (.ref b11), .val (.long (((own_s p1).toInt64) - ((own_s p3).toInt64))), .second, .val (.long (((own_s p2).toInt64) - ((own_s p4).toInt64))), .second, .val (.long (own_R (own_s p1) (own_s p2) (own_s p3) (own_s p4))), .second, .unset, .unset]) rfl ?_
    show Steps p.tables e below (T12.setTop (mkF m 101 #[.val (.int p1), .val (.int p2), .val (.int p3), .val (.int p4), .val (.int (own_s p1)), .val (.int (own_s p2)), .val (.int (own_s p3)), .val (.int (own_s p4)), .val (.ref b9), .val (.ref b11), .val (.long (((own_s p1).toInt64) - ((own_s p3).toInt64))), .second, .val (.long (((own_s p2).toInt64) - ((own_s p4).toInt64))), .second, .val (.long (own_R (own_s p1) (own_s p2) (own_s p3) (own_s p4))), .second, .unset, .unset] [])) _
    refine XS.lload X12.here hx rfl (hb hby at_101) rfl ?_
    show Steps p.tables e below (T12.setTop (mkF m 103 #[.val (.int p1), .val (.int p2), .val (.int p3), .val (.int p4), .val (.int (own_s p1)), .val (.int (own_s p2)), .val (.int (own_s p3)), .val (.int (own_s p4)), .val (.ref b9), .val (.ref b11), .val (.long (((own_s p1).toInt64) - ((own_s p3).toInt64))), .second, .val (.long (((own_s p2).toInt64) - ((own_s p4).toInt64))), .second, .val (.long (own_R (own_s p1) (own_s p2) (own_s p3) (own_s p4))), .second, .unset, .unset] [(.long (own_R (own_s p1) (own_s p2) (own_s p3) (own_s p4)))])) _
    refine XS.l2dS X12.here hx rfl (hb hby at_103) rfl rfl ?_
    show Steps p.tables e below (T12.setTop (mkF m 104 #[.val (.int p1), .val (.int p2), .val (.int p3), .val (.int p4), .val (.int (own_s p1)), .val (.int (own_s p2)), .val (.int (own_s p3)), .val (.int (own_s p4)), .val (.ref b9), .val (.ref b11), .val (.long (((own_s p1).toInt64) - ((own_s p3).toInt64))), .second, .val (.long (((own_s p2).toInt64) - ((own_s p4).toInt64))), .second, .val (.long (own_R (own_s p1) (own_s p2) (own_s p3) (own_s p4))), .second, .unset, .unset] [(.double (FP.l2d (own_R (own_s p1) (own_s p2) (own_s p3) (own_s p4))))])) _
    refine X12.ldc2DoubleC hx hown (mvT hZ (hw _ (List.mem_of_getElem? (i := 32) rfl))) (g := (mkF m 104 #[.val (.int p1), .val (.int p2), .val (.int p3), .val (.int p4), .val (.int (own_s p1)), .val (.int (own_s p2)), .val (.int (own_s p3)), .val (.int (own_s p4)), .val (.ref b9), .val (.ref b11), .val (.long (((own_s p1).toInt64) - ((own_s p3).toInt64))), .second, .val (.long (((own_s p2).toInt64) - ((own_s p4).toInt64))), .second, .val (.long (own_R (own_s p1) (own_s p2) (own_s p3) (own_s p4))), .second, .unset, .unset] [(.double (FP.l2d (own_R (own_s p1) (own_s p2) (own_s p3) (own_s p4))))])) rfl (hb hby at_104) _ ?_
    show Steps p.tables e below (T12.setTop (mkF m 107 #[.val (.int p1), .val (.int p2), .val (.int p3), .val (.int p4), .val (.int (own_s p1)), .val (.int (own_s p2)), .val (.int (own_s p3)), .val (.int (own_s p4)), .val (.ref b9), .val (.ref b11), .val (.long (((own_s p1).toInt64) - ((own_s p3).toInt64))), .second, .val (.long (((own_s p2).toInt64) - ((own_s p4).toInt64))), .second, .val (.long (own_R (own_s p1) (own_s p2) (own_s p3) (own_s p4))), .second, .unset, .unset] [(.double (4625196817309499392 : UInt64)), (.double (FP.l2d (own_R (own_s p1) (own_s p2) (own_s p3) (own_s p4))))])) _
    refine XS.ddivS X12.here hx rfl (hb hby at_107) rfl (own_D_nn (own_exp p1 p2 p3 p4)) rfl ?_
    show Steps p.tables e below (T12.setTop (mkF m 108 #[.val (.int p1), .val (.int p2), .val (.int p3), .val (.int p4), .val (.int (own_s p1)), .val (.int (own_s p2)), .val (.int (own_s p3)), .val (.int (own_s p4)), .val (.ref b9), .val (.ref b11), .val (.long (((own_s p1).toInt64) - ((own_s p3).toInt64))), .second, .val (.long (((own_s p2).toInt64) - ((own_s p4).toInt64))), .second, .val (.long (own_R (own_s p1) (own_s p2) (own_s p3) (own_s p4))), .second, .unset, .unset] [(.double (FP.ddiv (FP.l2d (own_R (own_s p1) (own_s p2) (own_s p3) (own_s p4))) (4625196817309499392 : UInt64)))])) _
    refine XS.dstore X12.here hx rfl (hb hby at_108) rfl (l' := #[.val (.int p1), .val (.int p2), .val (.int p3), .val (.int p4), .val (.int (own_s p1)), .val (.int (own_s p2)), .val (.int (own_s p3)), .val (.int (own_s p4)), .val (.ref b9), .val (.ref b11), .val (.long (((own_s p1).toInt64) - ((own_s p3).toInt64))), .second, .val (.long (((own_s p2).toInt64) - ((own_s p4).toInt64))), .second, .val (.long (own_R (own_s p1) (own_s p2) (own_s p3) (own_s p4))), .second, .val (.double (FP.ddiv (FP.l2d (own_R (own_s p1) (own_s p2) (own_s p3) (own_s p4))) (4625196817309499392 : UInt64))), .second]) rfl ?_
    show Steps p.tables e below (T12.setTop (mkF m 110 #[.val (.int p1), .val (.int p2), .val (.int p3), .val (.int p4), .val (.int (own_s p1)), .val (.int (own_s p2)), .val (.int (own_s p3)), .val (.int (own_s p4)), .val (.ref b9), .val (.ref b11), .val (.long (((own_s p1).toInt64) - ((own_s p3).toInt64))), .second, .val (.long (((own_s p2).toInt64) - ((own_s p4).toInt64))), .second, .val (.long (own_R (own_s p1) (own_s p2) (own_s p3) (own_s p4))), .second, .val (.double (FP.ddiv (FP.l2d (own_R (own_s p1) (own_s p2) (own_s p3) (own_s p4))) (4625196817309499392 : UInt64))), .second] [])) _
    refine XS.aload X12.here hx rfl (hb hby at_110) rfl rfl ?_
    show Steps p.tables e below (T12.setTop (mkF m 112 #[.val (.int p1), .val (.int p2), .val (.int p3), .val (.int p4), .val (.int (own_s p1)), .val (.int (own_s p2)), .val (.int (own_s p3)), .val (.int (own_s p4)), .val (.ref b9), .val (.ref b11), .val (.long (((own_s p1).toInt64) - ((own_s p3).toInt64))), .second, .val (.long (((own_s p2).toInt64) - ((own_s p4).toInt64))), .second, .val (.long (own_R (own_s p1) (own_s p2) (own_s p3) (own_s p4))), .second, .val (.double (FP.ddiv (FP.l2d (own_R (own_s p1) (own_s p2) (own_s p3) (own_s p4))) (4625196817309499392 : UInt64))), .second] [(.ref b9)])) _
    refine XS.aload X12.here hx rfl (hb hby at_112) rfl rfl ?_
    show Steps p.tables e below (T12.setTop (mkF m 114 #[.val (.int p1), .val (.int p2), .val (.int p3), .val (.int p4), .val (.int (own_s p1)), .val (.int (own_s p2)), .val (.int (own_s p3)), .val (.int (own_s p4)), .val (.ref b9), .val (.ref b11), .val (.long (((own_s p1).toInt64) - ((own_s p3).toInt64))), .second, .val (.long (((own_s p2).toInt64) - ((own_s p4).toInt64))), .second, .val (.long (own_R (own_s p1) (own_s p2) (own_s p3) (own_s p4))), .second, .val (.double (FP.ddiv (FP.l2d (own_R (own_s p1) (own_s p2) (own_s p3) (own_s p4))) (4625196817309499392 : UInt64))), .second] [(.ref b11), (.ref b9)])) _
    refine st13.trans ?_
    show Steps p.tables e below (T13.setTop (mkF m 117 #[.val (.int p1), .val (.int p2), .val (.int p3), .val (.int p4), .val (.int (own_s p1)), .val (.int (own_s p2)), .val (.int (own_s p3)), .val (.int (own_s p4)), .val (.ref b9), .val (.ref b11), .val (.long (((own_s p1).toInt64) - ((own_s p3).toInt64))), .second, .val (.long (((own_s p2).toInt64) - ((own_s p4).toInt64))), .second, .val (.long (own_R (own_s p1) (own_s p2) (own_s p3) (own_s p4))), .second, .val (.double (FP.ddiv (FP.l2d (own_R (own_s p1) (own_s p2) (own_s p3) (own_s p4))) (4625196817309499392 : UInt64))), .second] [(.double (own_sq (own_q (own_s p1)) (own_q (own_s p3)) (own_q (own_s p2)) (own_q (own_s p4))))])) _
    refine XS.dload X13.here hx rfl (hb hby at_117) rfl ?_
    show Steps p.tables e below (T13.setTop (mkF m 119 #[.val (.int p1), .val (.int p2), .val (.int p3), .val (.int p4), .val (.int (own_s p1)), .val (.int (own_s p2)), .val (.int (own_s p3)), .val (.int (own_s p4)), .val (.ref b9), .val (.ref b11), .val (.long (((own_s p1).toInt64) - ((own_s p3).toInt64))), .second, .val (.long (((own_s p2).toInt64) - ((own_s p4).toInt64))), .second, .val (.long (own_R (own_s p1) (own_s p2) (own_s p3) (own_s p4))), .second, .val (.double (FP.ddiv (FP.l2d (own_R (own_s p1) (own_s p2) (own_s p3) (own_s p4))) (4625196817309499392 : UInt64))), .second] [(.double (FP.ddiv (FP.l2d (own_R (own_s p1) (own_s p2) (own_s p3) (own_s p4))) (4625196817309499392 : UInt64))), (.double (own_sq (own_q (own_s p1)) (own_q (own_s p3)) (own_q (own_s p2)) (own_q (own_s p4))))])) _
    refine XS.dcmpS X13.here hx rfl (hb hby at_119) rfl rfl ?_
    show Steps p.tables e below (T13.setTop (mkF m 120 #[.val (.int p1), .val (.int p2), .val (.int p3), .val (.int p4), .val (.int (own_s p1)), .val (.int (own_s p2)), .val (.int (own_s p3)), .val (.int (own_s p4)), .val (.ref b9), .val (.ref b11), .val (.long (((own_s p1).toInt64) - ((own_s p3).toInt64))), .second, .val (.long (((own_s p2).toInt64) - ((own_s p4).toInt64))), .second, .val (.long (own_R (own_s p1) (own_s p2) (own_s p3) (own_s p4))), .second, .val (.double (FP.ddiv (FP.l2d (own_R (own_s p1) (own_s p2) (own_s p3) (own_s p4))) (4625196817309499392 : UInt64))), .second] [(.int (cmpValue (FP.dcmp (own_sq (own_q (own_s p1)) (own_q (own_s p3)) (own_q (own_s p2)) (own_q (own_s p4))) (FP.ddiv (FP.l2d (own_R (own_s p1) (own_s p2) (own_s p3) (own_s p4))) (4625196817309499392 : UInt64))) .l))])) _
    refine XS.ifNo X13.here hx rfl (hb hby at_120) rfl ((if0 _ _).trans (teq (own_c1 _ _ _ _ : (cmpValue (FP.dcmp (own_sq (own_q (own_s p1)) (own_q (own_s p3)) (own_q (own_s p2)) (own_q (own_s p4))) (FP.ddiv (FP.l2d (own_R (own_s p1) (own_s p2) (own_s p3) (own_s p4))) (4625196817309499392 : UInt64))) .l) = (0 : Int32))).2) ?_
    show Steps p.tables e below (T13.setTop (mkF m 123 #[.val (.int p1), .val (.int p2), .val (.int p3), .val (.int p4), .val (.int (own_s p1)), .val (.int (own_s p2)), .val (.int (own_s p3)), .val (.int (own_s p4)), .val (.ref b9), .val (.ref b11), .val (.long (((own_s p1).toInt64) - ((own_s p3).toInt64))), .second, .val (.long (((own_s p2).toInt64) - ((own_s p4).toInt64))), .second, .val (.long (own_R (own_s p1) (own_s p2) (own_s p3) (own_s p4))), .second, .val (.double (FP.ddiv (FP.l2d (own_R (own_s p1) (own_s p2) (own_s p3) (own_s p4))) (4625196817309499392 : UInt64))), .second] [])) _
    refine XS.aload X13.here hx rfl (hb hby at_123) rfl rfl ?_
    show Steps p.tables e below (T13.setTop (mkF m 125 #[.val (.int p1), .val (.int p2), .val (.int p3), .val (.int p4), .val (.int (own_s p1)), .val (.int (own_s p2)), .val (.int (own_s p3)), .val (.int (own_s p4)), .val (.ref b9), .val (.ref b11), .val (.long (((own_s p1).toInt64) - ((own_s p3).toInt64))), .second, .val (.long (((own_s p2).toInt64) - ((own_s p4).toInt64))), .second, .val (.long (own_R (own_s p1) (own_s p2) (own_s p3) (own_s p4))), .second, .val (.double (FP.ddiv (FP.l2d (own_R (own_s p1) (own_s p2) (own_s p3) (own_s p4))) (4625196817309499392 : UInt64))), .second] [(.ref b11)])) _
    refine XS.aload X13.here hx rfl (hb hby at_125) rfl rfl ?_
    show Steps p.tables e below (T13.setTop (mkF m 127 #[.val (.int p1), .val (.int p2), .val (.int p3), .val (.int p4), .val (.int (own_s p1)), .val (.int (own_s p2)), .val (.int (own_s p3)), .val (.int (own_s p4)), .val (.ref b9), .val (.ref b11), .val (.long (((own_s p1).toInt64) - ((own_s p3).toInt64))), .second, .val (.long (((own_s p2).toInt64) - ((own_s p4).toInt64))), .second, .val (.long (own_R (own_s p1) (own_s p2) (own_s p3) (own_s p4))), .second, .val (.double (FP.ddiv (FP.l2d (own_R (own_s p1) (own_s p2) (own_s p3) (own_s p4))) (4625196817309499392 : UInt64))), .second] [(.ref b9), (.ref b11)])) _
    refine st14.trans ?_
    show Steps p.tables e below (T14.setTop (mkF m 130 #[.val (.int p1), .val (.int p2), .val (.int p3), .val (.int p4), .val (.int (own_s p1)), .val (.int (own_s p2)), .val (.int (own_s p3)), .val (.int (own_s p4)), .val (.ref b9), .val (.ref b11), .val (.long (((own_s p1).toInt64) - ((own_s p3).toInt64))), .second, .val (.long (((own_s p2).toInt64) - ((own_s p4).toInt64))), .second, .val (.long (own_R (own_s p1) (own_s p2) (own_s p3) (own_s p4))), .second, .val (.double (FP.ddiv (FP.l2d (own_R (own_s p1) (own_s p2) (own_s p3) (own_s p4))) (4625196817309499392 : UInt64))), .second] [(.double (own_sq (own_q (own_s p3)) (own_q (own_s p1)) (own_q (own_s p4)) (own_q (own_s p2))))])) _
    refine XS.dload X14.here hx rfl (hb hby at_130) rfl ?_
    show Steps p.tables e below (T14.setTop (mkF m 132 #[.val (.int p1), .val (.int p2), .val (.int p3), .val (.int p4), .val (.int (own_s p1)), .val (.int (own_s p2)), .val (.int (own_s p3)), .val (.int (own_s p4)), .val (.ref b9), .val (.ref b11), .val (.long (((own_s p1).toInt64) - ((own_s p3).toInt64))), .second, .val (.long (((own_s p2).toInt64) - ((own_s p4).toInt64))), .second, .val (.long (own_R (own_s p1) (own_s p2) (own_s p3) (own_s p4))), .second, .val (.double (FP.ddiv (FP.l2d (own_R (own_s p1) (own_s p2) (own_s p3) (own_s p4))) (4625196817309499392 : UInt64))), .second] [(.double (FP.ddiv (FP.l2d (own_R (own_s p1) (own_s p2) (own_s p3) (own_s p4))) (4625196817309499392 : UInt64))), (.double (own_sq (own_q (own_s p3)) (own_q (own_s p1)) (own_q (own_s p4)) (own_q (own_s p2))))])) _
    refine XS.dcmpS X14.here hx rfl (hb hby at_132) rfl rfl ?_
    show Steps p.tables e below (T14.setTop (mkF m 133 #[.val (.int p1), .val (.int p2), .val (.int p3), .val (.int p4), .val (.int (own_s p1)), .val (.int (own_s p2)), .val (.int (own_s p3)), .val (.int (own_s p4)), .val (.ref b9), .val (.ref b11), .val (.long (((own_s p1).toInt64) - ((own_s p3).toInt64))), .second, .val (.long (((own_s p2).toInt64) - ((own_s p4).toInt64))), .second, .val (.long (own_R (own_s p1) (own_s p2) (own_s p3) (own_s p4))), .second, .val (.double (FP.ddiv (FP.l2d (own_R (own_s p1) (own_s p2) (own_s p3) (own_s p4))) (4625196817309499392 : UInt64))), .second] [(.int (cmpValue (FP.dcmp (own_sq (own_q (own_s p3)) (own_q (own_s p1)) (own_q (own_s p4)) (own_q (own_s p2))) (FP.ddiv (FP.l2d (own_R (own_s p1) (own_s p2) (own_s p3) (own_s p4))) (4625196817309499392 : UInt64))) .l))])) _
    refine XS.ifNo X14.here hx rfl (hb hby at_133) rfl ((if0 _ _).trans (teq (own_c2 _ _ _ _ : (cmpValue (FP.dcmp (own_sq (own_q (own_s p3)) (own_q (own_s p1)) (own_q (own_s p4)) (own_q (own_s p2))) (FP.ddiv (FP.l2d (own_R (own_s p1) (own_s p2) (own_s p3) (own_s p4))) (4625196817309499392 : UInt64))) .l) = (0 : Int32))).2) ?_
    show Steps p.tables e below (T14.setTop (mkF m 136 #[.val (.int p1), .val (.int p2), .val (.int p3), .val (.int p4), .val (.int (own_s p1)), .val (.int (own_s p2)), .val (.int (own_s p3)), .val (.int (own_s p4)), .val (.ref b9), .val (.ref b11), .val (.long (((own_s p1).toInt64) - ((own_s p3).toInt64))), .second, .val (.long (((own_s p2).toInt64) - ((own_s p4).toInt64))), .second, .val (.long (own_R (own_s p1) (own_s p2) (own_s p3) (own_s p4))), .second, .val (.double (FP.ddiv (FP.l2d (own_R (own_s p1) (own_s p2) (own_s p3) (own_s p4))) (4625196817309499392 : UInt64))), .second] [])) _
    refine XS.iconst X14.here hx rfl (hb hby at_136) ?_
    show Steps p.tables e below (T14.setTop (mkF m 137 #[.val (.int p1), .val (.int p2), .val (.int p3), .val (.int p4), .val (.int (own_s p1)), .val (.int (own_s p2)), .val (.int (own_s p3)), .val (.int (own_s p4)), .val (.ref b9), .val (.ref b11), .val (.long (((own_s p1).toInt64) - ((own_s p3).toInt64))), .second, .val (.long (((own_s p2).toInt64) - ((own_s p4).toInt64))), .second, .val (.long (own_R (own_s p1) (own_s p2) (own_s p3) (own_s p4))), .second, .val (.double (FP.ddiv (FP.l2d (own_R (own_s p1) (own_s p2) (own_s p3) (own_s p4))) (4625196817309499392 : UInt64))), .second] [(.int (1 : Int32))])) _
    refine XS.goto X14.here hx rfl (pc0 := 137) (pc' := 141) rfl (hb hby at_137) (by decide) (by decide) ?_
    show Steps p.tables e below (T14.setTop (mkF m 141 #[.val (.int p1), .val (.int p2), .val (.int p3), .val (.int p4), .val (.int (own_s p1)), .val (.int (own_s p2)), .val (.int (own_s p3)), .val (.int (own_s p4)), .val (.ref b9), .val (.ref b11), .val (.long (((own_s p1).toInt64) - ((own_s p3).toInt64))), .second, .val (.long (((own_s p2).toInt64) - ((own_s p4).toInt64))), .second, .val (.long (own_R (own_s p1) (own_s p2) (own_s p3) (own_s p4))), .second, .val (.double (FP.ddiv (FP.l2d (own_R (own_s p1) (own_s p2) (own_s p3) (own_s p4))) (4625196817309499392 : UInt64))), .second] [(.int (1 : Int32))])) _
    exact retN X14 hx (t := .boolean) Bd.returns (by simp) (hb hby at_141) hr
  · show Q0 Z p1 p2 p3 p4 h0 n0 _ T14.heap _
    exact ⟨rfl, N14⟩
set_option maxRecDepth 65536 in
set_option maxHeartbeats 40000000 in
theorem comes_1 {Post : Tables → Env → Array Value → State → Outcome → State → Prop} (hpost : ∀ tb e args s v u, (limb_1_1.after args s (.returned v) u = true ∧ limb_1_2.after args s (.returned v) u = true ∧ True) → FrameEnd s (.returned v) u (Jvm.fieldLocs frame_1_writes args s ++ Jvm.arrayLocs frame_1_arrays args s ++ Jvm.staticLocs frame_1_statics s) 16 128 → Post tb e args s (.returned v) u) :
    ArmFor flags0 classFile x code maxLocals ret World_1 tables_1 room_1 Calls_1 rest_1 Pre_1 Post := by
  intro l hfl _ _ p e ha hc hk s m args below hf hA hF happ hP
  obtain ⟨hcalls, hrest, hpre⟩ := hP
  obtain ⟨-, -, -, hnamed, -, -, -, hat⟩ := (Spec.applies_iff hf).mp happ
  obtain ⟨hg, hn⟩ := and_e (Cond.before_iff.mp (show (Jvm.Cond.and given_1 narrow_1).before args s = true from hpre))
  obtain ⟨g15, g16⟩ := and_e hg
  obtain ⟨g17, g18⟩ := and_e g16
  obtain ⟨g19, g20⟩ := and_e g18
  obtain ⟨g21, g22⟩ := and_e g20
  obtain ⟨w0, w1, w2, w3, rfl⟩ : ∃ w0 w1 w2 w3 : Value, args = #[w0, w1, w2, w3] := by
    have hs : args.size = 4 := by simpa [Cond.value, given_1] using g15
    obtain ⟨L⟩ := args
    match L, hs with
    | [w0, w1, w2, w3], _ => exact ⟨w0, w1, w2, w3, rfl⟩
  have hw := fun d (hd : d ∈ tables_1) => atoms_spec (ws := Jvm.Cond.code x code maxLocals ret :: tables_1) hat d (List.mem_cons_of_mem _ hd)
  have hfit : Fit s := fun {y c} hc i hi => by
    obtain ⟨ha, rfl⟩ := Array.getElem?_eq_some_iff.mp hc
    have q := List.all_eq_true.mp ((Array.all_eq_true_iff_forall_mem.mp hF) _ (Array.getElem_mem ha)) i (List.mem_range.mpr hi)
    simpa [Array.getElem?_eq_getElem hi] using q
  obtain ⟨i0, ei0⟩ := is_v g17
  obtain rfl : w0 = (.int i0) := Option.some.inj ei0
  obtain ⟨i1, ei1⟩ := is_v g19
  obtain rfl : w1 = (.int i1) := Option.some.inj ei1
  obtain ⟨i2, ei2⟩ := is_v g21
  obtain rfl : w2 = (.int i2) := Option.some.inj ei2
  obtain ⟨i3, ei3⟩ := is_v g22
  obtain rfl : w3 = (.int i3) := Option.some.inj ei3
  obtain ⟨n, o, h1, h2, h3, _, L, rfl, ⟨rfl, N⟩, hq⟩ := rm0 l s _ hw tables_1 i0 i1 i2 i3 s.heap s.heap.size (Nat.le_refl _) p e ha hc hk s m _ below hf ((Spec.applies_iff_loose hf).mp happ).1 ⟨rfl, State.Warmed39.refl s, rfl⟩ trivial
  refine ⟨n, _, h1, h2, h3, hpost _ _ _ _ _ _ ⟨Cond.after_iff.mpr rfl, Cond.after_iff.mpr (eq_i res_at (Term.int_eval (1)) rfl), trivial⟩ ⟨hq.1, hq.2.1, (hq.2.2.sift fun y hy => Or.inr (N y hy)).mono (by decide) (by decide)⟩⟩
theorem main_1_1 : Claimed_1_1 := comes_1 fun _ _ _ _ _ _ h hF => ⟨h.1, hF⟩
theorem main_1_2 : Claimed_1_2 := comes_1 fun _ _ _ _ _ _ h hF => ⟨h.2.1, hF⟩
end Jvm.Pilot.@@N@@
namespace Jvm.Pilot.@@N@@
open Jvm Jvm.ClassFile Sem Op Lib Jvm.Free Jvm.Stand Jvm.Pilot.@@N@@.Jvm.D
/-! MADE BY PROGRAM (witnessworld.py) out of the Statement's table words and the real class files: 16 classes; the members and pool entries that the words name. The judged class is class 1, her method 2. -/
namespace start1
open Jvm.ClassFile
def u (s : String) : CpInfo := .utf8 (stringToUtf16 s)
/-- a pool by its gaps: so many unusable entries, then the entry; so many at the end -/
def gap : Nat → List CpInfo → List CpInfo
  | 0, r => r
  | n + 1, r => .unusable :: gap n r
def poolList (es : List (Nat × CpInfo)) (last : Nat) : List CpInfo := es.foldr (fun e r => gap e.1 (e.2 :: r)) (gap last [])
def pool (es : List (Nat × CpInfo)) (last : Nat) : Array CpInfo := ⟨poolList es last⟩
def fileOf (pool : Array CpInfo) (this : Nat) (attrs : Array Attribute := #[]) (ms : Array MethodInfo := #[]) (fl : Nat := 33) (sup : Nat := 0) (ifs : Array Nat := #[]) (fds : Array FieldInfo := #[]) : ClassFile where
  minorVersion := 0
  majorVersion := 65
  constantPool := pool
  accessFlags := fl
  thisClass := this
  superClass := sup
  interfaces := ifs
  fields := fds
  methods := ms
  attributes := attrs
def plain (name : String) (sup : Option ClassId) : Class where
  name := name
  kind := .ordinary
  loader := none
  accessFlags := 33
  super := sup
  interfaces := #[]
  cf := none
  fields := #[]
  methods := #[]
  instanceTypes := #[]
  staticTypes := #[]
  resolved := #[]
  callSites := []
  init := .initialized
  statics := none
  mirror := none

def pool0 : Array CpInfo := pool [(5, u "<init>"), (0, u "()V"), (1, .class_ 10), (1, u "java/lang/Object")] 113

def k0c0 : Code := { maxStack := 0, maxLocals := 1, code := object_method_1_code, exceptionTable := #[], attributes := #[] }
def k0m0 : Method := { name := "<init>", desc := "()V", sig := { parameters := [], returnType := none }, accessFlags := 1, code := some k0c0 }
/-- java/lang/Object -/
def k0 : Class := { plain "java/lang/Object" none with
  accessFlags := 33
  interfaces := #[]
  cf := some (fileOf pool0 8 #[] #[{ accessFlags := 1, nameIndex := 5, descriptorIndex := 6, attributes := #[] }] 33 0 #[] #[])
  fields := #[]
  methods := #[k0m0]
  instanceTypes := #[]
  staticTypes := #[]
  resolved := Array.replicate 124 none
  statics := none }

def pool1 : Array CpInfo := pool [(2, .class_ 4), (1, u "java/lang/Object"), (0, u "<init>"), (0, u "()V"), (0, .methodref 8 9), (0, .class_ 10), (0, .nameAndType 11 12), (0, u "com/example/coho/coho/topology/PointSquaredDistancePinLaw"), (0, u "s21"), (0, u "(I)I"), (0, .class_ 14), (0, u "com/example/coho/coho/topology/Point"), (0, .double 4616189618054758400), (1, .methodref 13 18), (0, .nameAndType 5 19), (0, u "(DD)V"), (0, .double 4625196817309499392), (1, .methodref 13 23), (0, .nameAndType 24 25), (0, u "squaredDistance"), (0, u "(Lcom/example/coho/coho/topology/Point;)D"), (2, u "law"), (0, u "(IIII)Z")] 3

def k1m0 : Method := { name := "<init>", desc := "()V", sig := { parameters := [], returnType := none }, accessFlags := 1, code := none }
def k1c1 : Code := { maxStack := 2, maxLocals := 1, code := method_2_code, exceptionTable := #[], attributes := #[] }
def k1m1 : Method := { name := "s21", desc := "(I)I", sig := { parameters := [.int], returnType := some .int }, accessFlags := 10, code := some k1c1 }
def k1c2 : Code := { maxStack := 8, maxLocals := 18, code := code, exceptionTable := #[], attributes := #[] }
def k1m2 : Method := { name := "law", desc := "(IIII)Z", sig := { parameters := [.int, .int, .int, .int], returnType := some .boolean }, accessFlags := 9, code := some k1c2 }
/-- com/example/coho/coho/topology/PointSquaredDistancePinLaw -/
def k1 : Class := { plain "com/example/coho/coho/topology/PointSquaredDistancePinLaw" (some 0) with
  accessFlags := 49
  interfaces := #[]
  cf := some (fileOf pool1 8 #[] #[{ accessFlags := 1, nameIndex := 5, descriptorIndex := 6, attributes := #[] }, { accessFlags := 10, nameIndex := 11, descriptorIndex := 12, attributes := #[] }, { accessFlags := 9, nameIndex := 28, descriptorIndex := 29, attributes := #[] }] 49 2 #[] #[])
  fields := #[]
  methods := #[k1m0, k1m1, k1m2]
  instanceTypes := #[]
  staticTypes := #[]
  resolved := Array.replicate 33 none
  statics := none }

def pool2 : Array CpInfo := pool [(1, .methodref 2 3), (0, .class_ 4), (0, .nameAndType 5 6), (0, u "java/lang/Object"), (0, u "<init>"), (0, u "()V"), (0, .class_ 8), (0, u "java/lang/Record")] 13

def k2c0 : Code := { maxStack := 1, maxLocals := 1, code := jdk_30_method_1_code, exceptionTable := #[], attributes := #[] }
def k2m0 : Method := { name := "<init>", desc := "()V", sig := { parameters := [], returnType := none }, accessFlags := 4, code := some k2c0 }
/-- java/lang/Record -/
def k2 : Class := { plain "java/lang/Record" (some 0) with
  accessFlags := 1057
  interfaces := #[]
  cf := some (fileOf pool2 7 #[] #[{ accessFlags := 4, nameIndex := 5, descriptorIndex := 6, attributes := #[] }] 1057 2 #[] #[])
  fields := #[]
  methods := #[k2m0]
  instanceTypes := #[]
  staticTypes := #[]
  resolved := Array.replicate 22 none
  statics := none }

def pool3 : Array CpInfo := pool [(1, .methodref 2 3), (0, .class_ 4), (0, .nameAndType 5 6), (0, u "java/lang/Record"), (0, u "<init>"), (0, u "()V"), (0, .methodref 8 9), (0, .class_ 10), (0, .nameAndType 11 12), (0, u "java/lang/Double"), (0, u "isFinite"), (0, u "(D)Z"), (9, .fieldref 23 24), (0, .class_ 25), (0, .nameAndType 26 27), (0, u "com/example/coho/coho/topology/Point"), (0, u "xKm"), (0, u "D"), (0, .fieldref 23 29), (0, .nameAndType 30 27), (0, u "yKm"), (12, u "(DD)V"), (4, u "squaredDistance"), (0, u "(Lcom/example/coho/coho/topology/Point;)D")] 33

def k3c0 : Code := { maxStack := 6, maxLocals := 5, code := prog_82_method_1_code, exceptionTable := #[], attributes := #[] }
def k3m0 : Method := { name := "<init>", desc := "(DD)V", sig := { parameters := [.double, .double], returnType := none }, accessFlags := 1, code := some k3c0 }
def k3c1 : Code := { maxStack := 6, maxLocals := 6, code := prog_82_method_2_code, exceptionTable := #[], attributes := #[] }
def k3m1 : Method := { name := "squaredDistance", desc := "(Lcom/example/coho/coho/topology/Point;)D", sig := { parameters := [(.object "com/example/coho/coho/topology/Point")], returnType := some .double }, accessFlags := 0, code := some k3c1 }
/-- com/example/coho/coho/topology/Point -/
def k3 : Class := { plain "com/example/coho/coho/topology/Point" (some 2) with
  accessFlags := 49
  interfaces := #[]
  cf := some (fileOf pool3 23 #[] #[{ accessFlags := 1, nameIndex := 5, descriptorIndex := 43, attributes := #[] }, { accessFlags := 0, nameIndex := 48, descriptorIndex := 49, attributes := #[] }] 49 2 #[] #[{ accessFlags := 18, nameIndex := 26, descriptorIndex := 27, attributes := #[] }, { accessFlags := 18, nameIndex := 30, descriptorIndex := 27, attributes := #[] }])
  fields := #[{ name := "xKm", type := .double, accessFlags := 18, slot := 0, constantValue := 0 }, { name := "yKm", type := .double, accessFlags := 18, slot := 1, constantValue := 0 }]
  methods := #[k3m0, k3m1]
  instanceTypes := #[.double, .double]
  staticTypes := #[]
  resolved := Array.replicate 83 none
  statics := none }

def pool4 : Array CpInfo := pool [(1, .class_ 2), (0, u "java/io/Serializable"), (0, .class_ 4), (0, u "java/lang/Object")] 2

/-- java/io/Serializable -/
def k4 : Class := { plain "java/io/Serializable" (some 0) with
  accessFlags := 1537
  interfaces := #[]
  cf := some (fileOf pool4 1 #[] #[] 1537 3 #[] #[])
  fields := #[]
  methods := #[]
  instanceTypes := #[]
  staticTypes := #[]
  resolved := Array.replicate 7 none
  statics := none }

def pool5 : Array CpInfo := pool [(2, .class_ 4), (1, u "java/lang/Object"), (0, u "<init>"), (0, u "()V"), (1, .class_ 10), (1, u "java/lang/Number"), (2, .class_ 14), (0, u "java/io/Serializable"), (0, u "serialVersionUID"), (0, u "J")] 20

def k5m0 : Method := { name := "<init>", desc := "()V", sig := { parameters := [], returnType := none }, accessFlags := 1, code := none }
/-- java/lang/Number -/
def k5 : Class := { plain "java/lang/Number" (some 0) with
  accessFlags := 1057
  interfaces := #[4]
  cf := some (fileOf pool5 8 #[] #[{ accessFlags := 1, nameIndex := 5, descriptorIndex := 6, attributes := #[] }] 1057 2 #[13] #[{ accessFlags := 26, nameIndex := 15, descriptorIndex := 16, attributes := #[] }])
  fields := #[{ name := "serialVersionUID", type := .long, accessFlags := 26, slot := 0, constantValue := 0 }]
  methods := #[k5m0]
  instanceTypes := #[]
  staticTypes := #[.long]
  resolved := Array.replicate 37 none
  statics := none }

def pool6 : Array CpInfo := pool [(1, .class_ 2), (0, u "java/lang/Comparable"), (0, .class_ 4), (0, u "java/lang/Object")] 7

/-- java/lang/Comparable -/
def k6 : Class := { plain "java/lang/Comparable" (some 0) with
  accessFlags := 1537
  interfaces := #[]
  cf := some (fileOf pool6 1 #[] #[] 1537 3 #[] #[])
  fields := #[]
  methods := #[]
  instanceTypes := #[]
  staticTypes := #[]
  resolved := Array.replicate 12 none
  statics := none }

def pool7 : Array CpInfo := pool [(1, .class_ 2), (0, u "java/lang/constant/Constable"), (0, .class_ 4), (0, u "java/lang/Object")] 6

/-- java/lang/constant/Constable -/
def k7 : Class := { plain "java/lang/constant/Constable" (some 0) with
  accessFlags := 1537
  interfaces := #[]
  cf := some (fileOf pool7 1 #[] #[] 1537 3 #[] #[])
  fields := #[]
  methods := #[]
  instanceTypes := #[]
  staticTypes := #[]
  resolved := Array.replicate 11 none
  statics := none }

def pool8 : Array CpInfo := pool [(1, .class_ 2), (0, u "java/lang/constant/ConstantDesc"), (0, .class_ 4), (0, u "java/lang/Object")] 32

/-- java/lang/constant/ConstantDesc -/
def k8 : Class := { plain "java/lang/constant/ConstantDesc" (some 0) with
  accessFlags := 1537
  interfaces := #[]
  cf := some (fileOf pool8 1 #[] #[] 1537 3 #[] #[])
  fields := #[]
  methods := #[]
  instanceTypes := #[]
  staticTypes := #[]
  resolved := Array.replicate 37 none
  statics := none }

def pool9 : Array CpInfo := pool [(1, .class_ 2), (0, u "java/lang/Double"), (10, u "isFinite"), (0, u "(D)Z"), (8, .class_ 25), (1, u "java/lang/Math"), (12, .methodref 23 39), (0, .nameAndType 40 41), (0, u "abs"), (0, u "(D)D"), (69, .double 9218868437227405311), (2, .class_ 116), (1, u "java/lang/Number"), (3, u "value"), (0, u "D"), (51, u "TYPE"), (0, u "Ljava/lang/Class;"), (0, .class_ 176), (0, u "java/lang/Comparable"), (0, .class_ 178), (0, u "java/lang/constant/Constable"), (0, .class_ 180), (0, u "java/lang/constant/ConstantDesc"), (0, u "POSITIVE_INFINITY"), (3, u "NEGATIVE_INFINITY"), (2, u "NaN"), (2, u "MAX_VALUE"), (0, u "MIN_NORMAL"), (0, u "MIN_VALUE"), (2, u "SIZE"), (0, u "I"), (1, u "PRECISION"), (1, u "MAX_EXPONENT"), (1, u "MIN_EXPONENT"), (1, u "BYTES"), (3, u "serialVersionUID"), (0, u "J")] 79

def k9c0 : Code := { maxStack := 4, maxLocals := 2, code := jdk_117_method_8_code, exceptionTable := #[], attributes := #[] }
def k9m0 : Method := { name := "isFinite", desc := "(D)Z", sig := { parameters := [.double], returnType := some .boolean }, accessFlags := 9, code := some k9c0 }
/-- java/lang/Double -/
def k9 : Class := { plain "java/lang/Double" (some 5) with
  accessFlags := 49
  interfaces := #[6, 7, 8]
  cf := some (fileOf pool9 1 #[] #[{ accessFlags := 9, nameIndex := 13, descriptorIndex := 14, attributes := #[] }] 49 114 #[175, 177, 179] #[{ accessFlags := 25, nameIndex := 181, descriptorIndex := 121, attributes := #[] }, { accessFlags := 25, nameIndex := 185, descriptorIndex := 121, attributes := #[] }, { accessFlags := 25, nameIndex := 188, descriptorIndex := 121, attributes := #[] }, { accessFlags := 25, nameIndex := 191, descriptorIndex := 121, attributes := #[] }, { accessFlags := 25, nameIndex := 192, descriptorIndex := 121, attributes := #[] }, { accessFlags := 25, nameIndex := 193, descriptorIndex := 121, attributes := #[] }, { accessFlags := 25, nameIndex := 196, descriptorIndex := 197, attributes := #[] }, { accessFlags := 25, nameIndex := 199, descriptorIndex := 197, attributes := #[] }, { accessFlags := 25, nameIndex := 201, descriptorIndex := 197, attributes := #[] }, { accessFlags := 25, nameIndex := 203, descriptorIndex := 197, attributes := #[] }, { accessFlags := 25, nameIndex := 205, descriptorIndex := 197, attributes := #[] }, { accessFlags := 25, nameIndex := 173, descriptorIndex := 174, attributes := #[] }, { accessFlags := 18, nameIndex := 120, descriptorIndex := 121, attributes := #[] }, { accessFlags := 26, nameIndex := 209, descriptorIndex := 210, attributes := #[] }])
  fields := #[{ name := "POSITIVE_INFINITY", type := .double, accessFlags := 25, slot := 0, constantValue := 0 }, { name := "NEGATIVE_INFINITY", type := .double, accessFlags := 25, slot := 1, constantValue := 0 }, { name := "NaN", type := .double, accessFlags := 25, slot := 2, constantValue := 0 }, { name := "MAX_VALUE", type := .double, accessFlags := 25, slot := 3, constantValue := 0 }, { name := "MIN_NORMAL", type := .double, accessFlags := 25, slot := 4, constantValue := 0 }, { name := "MIN_VALUE", type := .double, accessFlags := 25, slot := 5, constantValue := 0 }, { name := "SIZE", type := .int, accessFlags := 25, slot := 6, constantValue := 0 }, { name := "PRECISION", type := .int, accessFlags := 25, slot := 7, constantValue := 0 }, { name := "MAX_EXPONENT", type := .int, accessFlags := 25, slot := 8, constantValue := 0 }, { name := "MIN_EXPONENT", type := .int, accessFlags := 25, slot := 9, constantValue := 0 }, { name := "BYTES", type := .int, accessFlags := 25, slot := 10, constantValue := 0 }, { name := "TYPE", type := (.object "java/lang/Class"), accessFlags := 25, slot := 11, constantValue := 0 }, { name := "value", type := .double, accessFlags := 18, slot := 0, constantValue := 0 }, { name := "serialVersionUID", type := .long, accessFlags := 26, slot := 12, constantValue := 0 }]
  methods := #[k9m0]
  instanceTypes := #[.double]
  staticTypes := #[.double, .double, .double, .double, .double, .double, .int, .int, .int, .int, .int, (.object "java/lang/Class"), .long]
  resolved := Array.replicate 290 none
  statics := none }

def pool10 : Array CpInfo := pool [(1, .class_ 2), (0, u "java/lang/Math"), (1, .class_ 6), (1, u "java/lang/Object"), (0, u "<init>"), (0, u "()V"), (5, u "(D)D"), (83, .class_ 100), (1, u "java/lang/Math$RandomNumberGeneratorHolder"), (23, u "abs"), (47, u "negativeZeroFloatBits"), (0, u "J"), (2, u "negativeZeroDoubleBits"), (68, u "$assertionsDisabled"), (0, u "Z"), (91, u "twoToTheDoubleScaleDown"), (0, u "D"), (4, u "twoToTheDoubleScaleUp"), (9, u "E"), (3, u "PI"), (2, u "TAU"), (2, u "DEGREES_TO_RADIANS"), (0, u "RADIANS_TO_DEGREES")] 94

def k10m0 : Method := { name := "<init>", desc := "()V", sig := { parameters := [], returnType := none }, accessFlags := 2, code := none }
def k10c1 : Code := { maxStack := 4, maxLocals := 2, code := jdk_29_method_64_code, exceptionTable := #[], attributes := #[] }
def k10m1 : Method := { name := "abs", desc := "(D)D", sig := { parameters := [.double], returnType := some .double }, accessFlags := 9, code := some k10c1 }
/-- java/lang/Math -/
def k10 : Class := { plain "java/lang/Math" (some 0) with
  accessFlags := 49
  interfaces := #[]
  cf := some (fileOf pool10 1 #[.nestMembers #[98]] #[{ accessFlags := 2, nameIndex := 7, descriptorIndex := 8, attributes := #[] }, { accessFlags := 9, nameIndex := 124, descriptorIndex := 14, attributes := #[] }] 49 4 #[] #[{ accessFlags := 25, nameIndex := 354, descriptorIndex := 339, attributes := #[] }, { accessFlags := 25, nameIndex := 358, descriptorIndex := 339, attributes := #[] }, { accessFlags := 25, nameIndex := 361, descriptorIndex := 339, attributes := #[] }, { accessFlags := 26, nameIndex := 364, descriptorIndex := 339, attributes := #[] }, { accessFlags := 26, nameIndex := 365, descriptorIndex := 339, attributes := #[] }, { accessFlags := 26, nameIndex := 172, descriptorIndex := 173, attributes := #[] }, { accessFlags := 26, nameIndex := 176, descriptorIndex := 173, attributes := #[] }, { accessFlags := 8, nameIndex := 344, descriptorIndex := 339, attributes := #[] }, { accessFlags := 8, nameIndex := 338, descriptorIndex := 339, attributes := #[] }, { accessFlags := 4120, nameIndex := 245, descriptorIndex := 246, attributes := #[] }])
  fields := #[{ name := "E", type := .double, accessFlags := 25, slot := 0, constantValue := 0 }, { name := "PI", type := .double, accessFlags := 25, slot := 1, constantValue := 0 }, { name := "TAU", type := .double, accessFlags := 25, slot := 2, constantValue := 0 }, { name := "DEGREES_TO_RADIANS", type := .double, accessFlags := 26, slot := 3, constantValue := 0 }, { name := "RADIANS_TO_DEGREES", type := .double, accessFlags := 26, slot := 4, constantValue := 0 }, { name := "negativeZeroFloatBits", type := .long, accessFlags := 26, slot := 5, constantValue := 0 }, { name := "negativeZeroDoubleBits", type := .long, accessFlags := 26, slot := 6, constantValue := 0 }, { name := "twoToTheDoubleScaleUp", type := .double, accessFlags := 8, slot := 7, constantValue := 0 }, { name := "twoToTheDoubleScaleDown", type := .double, accessFlags := 8, slot := 8, constantValue := 0 }, { name := "$assertionsDisabled", type := .boolean, accessFlags := 4120, slot := 9, constantValue := 0 }]
  methods := #[k10m0, k10m1]
  instanceTypes := #[]
  staticTypes := #[.double, .double, .double, .double, .double, .long, .long, .double, .double, .boolean]
  resolved := Array.replicate 460 none
  statics := none }

def pool11 : Array CpInfo := pool [(1, u "java/lang/Cloneable"), (0, .class_ 1), (0, u "java/lang/Object"), (0, .class_ 3)] 3

/-- java/lang/Cloneable -/
def k11 : Class := { plain "java/lang/Cloneable" (some 0) with
  accessFlags := 1537
  interfaces := #[]
  cf := some (fileOf pool11 2 #[] #[] 1537 4 #[] #[])
  fields := #[]
  methods := #[]
  instanceTypes := #[]
  staticTypes := #[]
  resolved := Array.replicate 8 none
  statics := none }

/-- the primitive byte -/
def k12 : Class := { plain "byte" none with kind := .primitive 'B', accessFlags := 0x411 }
/-- [B -/
def k13 : Class := { plain "[B" (some 0) with kind := .array 12 .byte, interfaces := #[11, 4], accessFlags := 1041 }

/-- the primitive int -/
def k14 : Class := { plain "int" none with kind := .primitive 'I', accessFlags := 0x411 }
/-- [I -/
def k15 : Class := { plain "[I" (some 0) with kind := .array 14 .int, interfaces := #[11, 4], accessFlags := 1041 }

def heap : Heap := #[]
def classes : Array Class := #[k0, k1, k2, k3, k4, k5, k6, k7, k8, k9, k10, k11, k12, k13, k14, k15]
def interned : List (Array UInt16 × Addr) := []
def slotsUsed : Nat := 0
def theMethod : MethodId := ⟨1, 2⟩
def args0 : Array Value := #[.int 5, .int 5, .int 5, .int 5]
def aboutOver (below : List Frame) : State where
  vm := { classes := classes, interned := interned.toArray }
  heap := heap
  slotsUsed := slotsUsed
  threads := #[{ frames := .invoking theMethod args0 :: below }]
def below0 : List Frame := [.native { method := ⟨0, 0⟩, args := #[] }]
def about1 : State := aboutOver below0
def p0 : Program := .bare "" "" ""
def e0 : Env := launch0.env 0 0 0
theorem w_frames : about1.frames = Frame.invoking theMethod args0 :: below0 := rfl
set_option maxRecDepth 65536 in
theorem w_args : argsFit about1.vm theMethod args0 = true := by decide +kernel
set_option maxRecDepth 65536 in
theorem w_heap : heapFits about1 = true := by decide +kernel
set_option maxRecDepth 65536 in
theorem w_runnable : about1.curStatus? = some .runnable := by decide +kernel
set_option maxRecDepth 65536 in
theorem w_alone : about1.alone = true := by decide +kernel
set_option maxRecDepth 65536 in
theorem w_named : about1.methodNamed? x = some theMethod := by decide +kernel
set_option maxRecDepth 65536 in
theorem w_hears : about1.hears theMethod below0 = true := by decide +kernel
set_option maxRecDepth 65536 in
theorem w_ripe : about1.ripe theMethod args0 below0 = true := by decide +kernel
theorem w_running : about1.status = .running := rfl
set_option maxRecDepth 65536 in
theorem w_room : about1.hasRoom e0.platform room_1 = true :=
  launch0.hasRoom_least _ room_1 (by decide +kernel) (by decide +kernel) (by decide +kernel) (by decide +kernel) (by decide +kernel) (by decide +kernel)
theorem allAtoms_all (ts : List Jvm.Cond) (a : Array Jvm.Value) (st : Jvm.State) : (allAtoms ts).before a st = ts.all (fun c => c.before a st) := by
  induction ts with
  | nil => rfl
  | cons c t ih =>
    show (Jvm.Cond.and c (allAtoms t)).before a st = _
    rw [Jvm.Cond.before_and, ih, List.all_cons]
def words1 : List Jvm.Cond := Jvm.Cond.code x code maxLocals ret :: tables_1
/-- a 'code' word, met by the world's own term for the bytes: nothing is compared byte by byte -/
theorem code_word {y : MethodName} {bytes : ByteArray} {mx : Nat} {rt : Option FieldType} {a : Array Value} {s : State} {m : MethodId} {meth : Method} {c : Code} (h1 : s.methodNamed? y = some m) (h2 : s.vm.method? m = some meth) (h3 : meth.code = some c) (h4 : c.code = bytes)
    (h5 : (c.maxLocals == mx && c.exceptionTable.isEmpty && decide (c.maxStack ≤ mostOperands) && decide (meth.sig.returnType = rt) && !meth.locks && decide (parseMethodDescriptor y.desc = some meth.sig)) = true) : (Jvm.Cond.code y bytes mx rt).before a s = true := by
  simp only [Bool.and_eq_true, beq_iff_eq, Bool.not_eq_true', decide_eq_true_eq] at h5
  obtain ⟨⟨⟨⟨⟨g1, g2⟩, g3⟩, g4⟩, g5⟩, g6⟩ := h5
  simp [Cond.before, Cond.holds, Cond.value, h1, h2, h3, h4, g1, g2, g3, g4, g5, g6]
def isCode : Jvm.Cond → Bool
  | .code _ _ _ _ => true
  | _ => false
theorem all_split {L : List Jvm.Cond} {P : Jvm.Cond → Bool} (h1 : L.all (fun c => isCode c || P c) = true) (h2 : ∀ c ∈ L.filter isCode, P c = true) : L.all P = true := by
  refine List.all_eq_true.mpr fun c hc => ?_
  have h := List.all_eq_true.mp h1 c hc
  rcases Bool.eq_false_or_eq_true (isCode c) with hi | hi
  · exact h2 c (List.mem_filter.mpr ⟨hc, hi⟩)
  · simpa [hi] using h
set_option maxRecDepth 65536 in
theorem w_c0 : (Jvm.Cond.code x code maxLocals ret).before args0 about1 = true := code_word (m := ⟨1, 2⟩) (meth := k1m2) (c := k1c2) (by decide +kernel) rfl rfl rfl (by decide +kernel)
set_option maxRecDepth 65536 in
theorem w_c1 : (Jvm.Cond.code ({ cls := "com/example/coho/coho/topology/PointSquaredDistancePinLaw", name := "s21", desc := "(I)I" } : Jvm.MethodName) method_2_code (1 : Nat) (Option.some Jvm.ClassFile.FieldType.int)).before args0 about1 = true := code_word (m := ⟨1, 1⟩) (meth := k1m1) (c := k1c1) (by decide +kernel) rfl rfl rfl (by decide +kernel)
set_option maxRecDepth 65536 in
theorem w_c2 : (Jvm.Cond.code ({ cls := "com/example/coho/coho/topology/Point", name := "<init>", desc := "(DD)V" } : Jvm.MethodName) prog_82_method_1_code (5 : Nat) (Option.none : Option Jvm.ClassFile.FieldType)).before args0 about1 = true := code_word (m := ⟨3, 0⟩) (meth := k3m0) (c := k3c0) (by decide +kernel) rfl rfl rfl (by decide +kernel)
set_option maxRecDepth 65536 in
theorem w_c3 : (Jvm.Cond.code ({ cls := "java/lang/Record", name := "<init>", desc := "()V" } : Jvm.MethodName) jdk_30_method_1_code (1 : Nat) (Option.none : Option Jvm.ClassFile.FieldType)).before args0 about1 = true := code_word (m := ⟨2, 0⟩) (meth := k2m0) (c := k2c0) (by decide +kernel) rfl rfl rfl (by decide +kernel)
set_option maxRecDepth 65536 in
theorem w_c4 : (Jvm.Cond.code ({ cls := "java/lang/Object", name := "<init>", desc := "()V" } : Jvm.MethodName) object_method_1_code (1 : Nat) (Option.none : Option Jvm.ClassFile.FieldType)).before args0 about1 = true := code_word (m := ⟨0, 0⟩) (meth := k0m0) (c := k0c0) (by decide +kernel) rfl rfl rfl (by decide +kernel)
set_option maxRecDepth 65536 in
theorem w_c5 : (Jvm.Cond.code ({ cls := "java/lang/Double", name := "isFinite", desc := "(D)Z" } : Jvm.MethodName) jdk_117_method_8_code (2 : Nat) (Option.some Jvm.ClassFile.FieldType.boolean)).before args0 about1 = true := code_word (m := ⟨9, 0⟩) (meth := k9m0) (c := k9c0) (by decide +kernel) rfl rfl rfl (by decide +kernel)
set_option maxRecDepth 65536 in
theorem w_c6 : (Jvm.Cond.code ({ cls := "java/lang/Math", name := "abs", desc := "(D)D" } : Jvm.MethodName) jdk_29_method_64_code (2 : Nat) (Option.some Jvm.ClassFile.FieldType.double)).before args0 about1 = true := code_word (m := ⟨10, 1⟩) (meth := k10m1) (c := k10c1) (by decide +kernel) rfl rfl rfl (by decide +kernel)
set_option maxRecDepth 65536 in
theorem w_c7 : (Jvm.Cond.code ({ cls := "com/example/coho/coho/topology/Point", name := "squaredDistance", desc := "(Lcom/example/coho/coho/topology/Point;)D" } : Jvm.MethodName) prog_82_method_2_code (6 : Nat) (Option.some Jvm.ClassFile.FieldType.double)).before args0 about1 = true := code_word (m := ⟨3, 1⟩) (meth := k3m1) (c := k3c1) (by decide +kernel) rfl rfl rfl (by decide +kernel)
def codes1 : List Jvm.Cond := [Jvm.Cond.code x code maxLocals ret, Jvm.Cond.code ({ cls := "com/example/coho/coho/topology/PointSquaredDistancePinLaw", name := "s21", desc := "(I)I" } : Jvm.MethodName) method_2_code (1 : Nat) (Option.some Jvm.ClassFile.FieldType.int), Jvm.Cond.code ({ cls := "com/example/coho/coho/topology/Point", name := "<init>", desc := "(DD)V" } : Jvm.MethodName) prog_82_method_1_code (5 : Nat) (Option.none : Option Jvm.ClassFile.FieldType), Jvm.Cond.code ({ cls := "java/lang/Record", name := "<init>", desc := "()V" } : Jvm.MethodName) jdk_30_method_1_code (1 : Nat) (Option.none : Option Jvm.ClassFile.FieldType), Jvm.Cond.code ({ cls := "java/lang/Object", name := "<init>", desc := "()V" } : Jvm.MethodName) object_method_1_code (1 : Nat) (Option.none : Option Jvm.ClassFile.FieldType), Jvm.Cond.code ({ cls := "java/lang/Double", name := "isFinite", desc := "(D)Z" } : Jvm.MethodName) jdk_117_method_8_code (2 : Nat) (Option.some Jvm.ClassFile.FieldType.boolean), Jvm.Cond.code ({ cls := "java/lang/Math", name := "abs", desc := "(D)D" } : Jvm.MethodName) jdk_29_method_64_code (2 : Nat) (Option.some Jvm.ClassFile.FieldType.double), Jvm.Cond.code ({ cls := "com/example/coho/coho/topology/Point", name := "squaredDistance", desc := "(Lcom/example/coho/coho/topology/Point;)D" } : Jvm.MethodName) prog_82_method_2_code (6 : Nat) (Option.some Jvm.ClassFile.FieldType.double)]
set_option maxRecDepth 65536 in
theorem codes_eq : words1.filter isCode = codes1 := rfl
theorem w_codes : ∀ c ∈ words1.filter isCode, c.before args0 about1 = true := by
  rw [codes_eq]
  intro c hc
  simp only [codes1, List.mem_cons, List.not_mem_nil, or_false] at hc
  rcases hc with rfl | rfl | rfl | rfl | rfl | rfl | rfl | rfl
  · exact w_c0
  · exact w_c1
  · exact w_c2
  · exact w_c3
  · exact w_c4
  · exact w_c5
  · exact w_c6
  · exact w_c7
set_option maxRecDepth 65536 in
theorem w_t1 : (words1.take 24).all (fun c => isCode c || c.before args0 about1) = true := by decide +kernel
set_option maxRecDepth 65536 in
theorem w_t2 : (words1.drop 24).all (fun c => isCode c || c.before args0 about1) = true := by decide +kernel
theorem w_tables : (allAtoms (Jvm.Cond.code x code maxLocals ret :: tables_1)).before args0 about1 = true := by
  rw [allAtoms_all]
  show words1.all (fun c => c.before args0 about1) = true
  refine all_split ?_ w_codes
  rw [← List.take_append_drop 24 words1, List.all_append, w_t1, w_t2]
  rfl
set_option maxRecDepth 65536 in
theorem w_case : (Jvm.Cond.and given_1 narrow_1).before args0 about1 = true := by decide +kernel
theorem w_applies : (headSpec (Jvm.Cond.code x code maxLocals ret :: tables_1) room_1).applies x e0.platform about1 = true :=
  (Spec.applies_iff w_frames).mpr ⟨w_running, w_runnable, w_alone, w_named, w_hears, w_ripe, w_room, w_tables⟩
theorem atStart : AtStart classFile x code maxLocals ret World_1 tables_1 room_1 Calls_1 rest_1 Pre_1 launch0 p0 e0 about1 theMethod args0 below0 :=
  ⟨lists_1, trivial, launch0.admits_env _ _ _, launch0.least_env, fairChoices_fair.cas, fairChoices_fair.clock, w_frames, w_args, w_heap, w_applies, trivial, trivial, w_case⟩
end start1
theorem witness_1 : WitnessClaimed_1 := ⟨start1.p0, start1.e0, start1.about1, start1.theMethod, start1.args0, start1.below0, start1.atStart⟩
end Jvm.Pilot.@@N@@
