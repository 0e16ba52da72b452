import JvmDerived
import JvmDerived.Pilot.@@N@@Statement
import JvmDerived.Pilot.@@N@@Code
set_option linter.unusedVariables false
set_option linter.unusedSimpArgs false
namespace Jvm.Pilot.@@N@@
open Jvm Jvm.ClassFile Sem Op Lib Jvm.Free Jvm.Stand Jvm.LawKit Jvm.RoadKit Bundle Jvm.Pilot.@@N@@.Jvm.D
open Jvm.Free.Fl
section OwnFP
open Jvm.FP.Core
theorem own_rep (s : Bool) (n k : Nat) (hn : n < 2 ^ 53) (hk : k ≤ 1000) : ∃ c q, Jvm.FP.Core.fits b64 (.fin s c q) ∧ zmag b64 (.fin s c q) = n * 2 ^ (1074 - k) := by
  by_cases h0 : n = 0
  · subst h0
    exact ⟨0, b64.qmin, zero_fits good_b64 s, by simp [zmag, inUnits]⟩
  · have hl1 : 2 ^ n.log2 ≤ n := Nat.log2_self_le h0
    have hl2 : n < 2 ^ (n.log2 + 1) := Nat.lt_log2_self
    have hl : n.log2 < 53 := (Nat.pow_lt_pow_iff_right (by decide)).mp (Nat.lt_of_le_of_lt hl1 hn)
    refine ⟨n * 2 ^ (52 - n.log2), (n.log2 : Int) - 52 - k, ⟨?_, ?_, ?_, Or.inr ?_⟩, ?_⟩
    · show n * 2 ^ (52 - n.log2) < 2 ^ 53
      have e : (2 : Nat) ^ 53 = 2 ^ (n.log2 + 1) * 2 ^ (52 - n.log2) := by rw [← Nat.pow_add]; congr 1; omega
      rw [e]
      exact Nat.mul_lt_mul_of_pos_right hl2 (Nat.pow_pos (by decide))
    · rw [qmin_b64]; omega
    · have : b64.qmax = 971 := by decide
      rw [this]; omega
    · rw [tails_b64]
      have e : (2 : Nat) ^ 52 = 2 ^ n.log2 * 2 ^ (52 - n.log2) := by rw [← Nat.pow_add]; congr 1; omega
      rw [e]
      exact Nat.mul_le_mul_right _ hl1
    · show inUnits _ _ b64.qmin = _
      unfold inUnits
      rw [qmin_b64, Nat.mul_assoc, ← Nat.pow_add]
      congr 2
      omega
theorem own_rr (s : Bool) (A B : Nat) (e e0 : Int) (n k : Nat) (hn : n < 2 ^ 53) (hk : k ≤ 1000) (hB : 0 < B) (h0 : e0 ≤ -1074) (h0e : e0 ≤ e) (h : inUnits A e e0 = n * 2 ^ (1074 - k) * 2 ^ (-1074 - e0).toNat * B) :
    ∃ c q, roundRatio b64 s A B e = .fin s c q ∧ zmag b64 (.fin s c q) = n * 2 ^ (1074 - k) := by
  obtain ⟨c, q, hf, hz⟩ := own_rep s n k hn hk
  have h0' : e0 ≤ b64.qmin := by rw [qmin_b64]; exact h0
  have le := zmag_roundRatio_le good_b64 (s := s) (V := .fin s c q) hB hf (by simp) h0' h0e (by rw [hz, qmin_b64]; exact Nat.le_of_eq h)
  have ge := zmag_roundRatio_ge good_b64 (s := s) (V := .fin s c q) hB hf h0' h0e (by rw [hz, qmin_b64]; exact Nat.le_of_eq h.symm)
  have zz := Nat.le_antisymm le ge
  have top := zmag_lt_top good_b64 hf
  have sg := sgn_roundRatio b64 s A B e
  have nn := roundRatio_ne_nan b64 s A B e
  cases hr : roundRatio b64 s A B e with
  | nan => exact absurd hr nn
  | inf t =>
    exfalso
    rw [hr] at zz
    have e2 : b64.tails * 2 ^ (b64.exps - 2) = zmag b64 (.fin s c q) := zz
    rw [e2] at top
    exact Nat.lt_irrefl _ top
  | fin t c' q' =>
    rw [hr] at sg zz
    have e1 : t = s := sg
    subst e1
    exact ⟨c', q', rfl, zz.trans hz⟩
/-- x is the number n / 2^k -/
def own_V (k : Nat) (n : Int) (x : UInt64) : Prop := ∃ s c q, val64 x = .fin s c q ∧ zval b64 (.fin s c q) = n * (2 ^ (1074 - k) : Nat)
theorem own_round (k : Nat) (sg : Bool) (N : Nat) (e e0 : Int) (n : Int) (hk : k ≤ 1000) (h0 : e0 ≤ -1074) (he : e0 ≤ e) (hn : n.natAbs < 2 ^ 53) (h : signed sg (inUnits N e e0) = n * (2 ^ (1074 - k) : Nat) * (2 ^ (-1074 - e0).toNat : Nat)) :
    ∃ s c q, round b64 (.fin sg N e) = .fin s c q ∧ zval b64 (.fin s c q) = n * (2 ^ (1074 - k) : Nat) := by
  have hab := congrArg Int.natAbs h
  rw [natAbs_signed, Int.natAbs_mul, Int.natAbs_mul, Int.natAbs_natCast, Int.natAbs_natCast] at hab
  obtain ⟨c, q, h1, h2⟩ := own_rr sg N 1 e e0 n.natAbs k hn hk (by decide) h0 he (by rw [Nat.mul_one]; exact hab)
  refine ⟨sg, c, q, h1, ?_⟩
  show signed sg (zmag b64 (.fin sg c q)) = _
  rw [h2]
  have p1 : 0 < 2 ^ (1074 - k) := Nat.pow_pos (by decide)
  have p2 : 0 < 2 ^ (-1074 - e0).toNat := Nat.pow_pos (by decide)
  rw [hab] at h
  generalize 2 ^ (1074 - k) = P at *
  generalize 2 ^ (-1074 - e0).toNat = R at *
  rw [signed_mul, signed_mul] at h
  rw [signed_mul]
  have hR : (R : Int) ≠ 0 := by omega
  exact Int.eq_of_mul_eq_mul_right hR h
theorem own_V_l2d (v : Int64) (h : v.toInt.natAbs < 2 ^ 53) : own_V 0 v.toInt (Jvm.FP.l2d v) := by
  obtain ⟨s, c, q, h1, h2⟩ := own_round 0 (decide (v.toInt < 0)) v.toInt.natAbs 0 (-1074) v.toInt (by decide) (by decide) (by decide) h (by
    unfold inUnits
    rw [signed_mul]
    have : signed (decide (v.toInt < 0)) v.toInt.natAbs = v.toInt := by
      unfold signed
      by_cases q : v.toInt < 0
      · simp [q]; omega
      · simp [q]; omega
    rw [this]
    simp)
  exact ⟨s, c, q, (val64_l2d v).trans h1, h2⟩
theorem own_V_add {k : Nat} {a b : Int} {x y : UInt64} (hk : k ≤ 1000) (hx : own_V k a x) (hy : own_V k b y) (h : (a + b).natAbs < 2 ^ 53) : own_V k (a + b) (Jvm.FP.dadd x y) := by
  obtain ⟨s, c, q, x1, x2⟩ := hx
  obtain ⟨t, d, r, y1, y2⟩ := hy
  have fx := val64_fits x
  have fy := val64_fits y
  rw [x1] at fx
  rw [y1] at fy
  obtain ⟨sg, N, e, s1, s2, s3⟩ := sum_units fx fy
  rw [x2, y2, ← Int.add_mul] at s3
  rw [qmin_b64] at s2 s3
  obtain ⟨u, c', q', r1, r2⟩ := own_round k sg N e (-1074) (a + b) hk (by decide) s2 h (by rw [s3]; simp)
  exact ⟨u, c', q', by rw [show val64 (Jvm.FP.dadd x y) = _ from val64_dadd x y, x1, y1, s1]; exact r1, r2⟩
theorem own_V_sub {k : Nat} {a b : Int} {x y : UInt64} (hk : k ≤ 1000) (hx : own_V k a x) (hy : own_V k b y) (h : (a - b).natAbs < 2 ^ 53) : own_V k (a - b) (Jvm.FP.dsub x y) := by
  obtain ⟨s, c, q, x1, x2⟩ := hx
  obtain ⟨t, d, r, y1, y2⟩ := hy
  have fx := val64_fits x
  have fy := negate_fits (val64_fits y)
  rw [x1] at fx
  rw [y1] at fy
  have y3 := zval_negate b64 (.fin t d r)
  obtain ⟨sg, N, e, s1, s2, s3⟩ := sum_units (t := !t) fx fy
  have y4 : zval b64 (.fin (!t) d r) = -zval b64 (.fin t d r) := y3
  rw [y4, x2, y2, ← Int.neg_mul, ← Int.add_mul] at s3
  rw [qmin_b64] at s2 s3
  obtain ⟨u, c', q', r1, r2⟩ := own_round k sg N e (-1074) (a - b) hk (by decide) s2 h (by rw [s3]; simp [Int.sub_eq_add_neg])
  exact ⟨u, c', q', by rw [show val64 (Jvm.FP.dsub x y) = _ from val64_dsub x y, x1, y1]; show round b64 (exactSum _ (.fin (!t) d r)) = _; rw [s1]; exact r1, r2⟩
theorem own_pow_add (k j : Nat) (h : k + j ≤ 1000) : 2 ^ (1074 - k) * 2 ^ (1074 - j) = 2 ^ (1074 - (k + j)) * 2 ^ 1074 := by
  rw [← Nat.pow_add, ← Nat.pow_add]; congr 1; omega
theorem own_signed_ne (s t : Bool) (a b : Nat) : signed (s != t) (a * b) = signed s a * signed t b := by
  cases s <;> cases t <;> simp [signed, Int.neg_mul, Int.mul_neg]
theorem own_V_mul {k j : Nat} {a b : Int} {x y : UInt64} (hk : k + j ≤ 1000) (hx : own_V k a x) (hy : own_V j b y) (h : (a * b).natAbs < 2 ^ 53) : own_V (k + j) (a * b) (Jvm.FP.dmul x y) := by
  obtain ⟨s, c, q, x1, x2⟩ := hx
  obtain ⟨t, d, r, y1, y2⟩ := hy
  have fx := val64_fits x
  have fy := val64_fits y
  rw [x1] at fx
  rw [y1] at fy
  obtain ⟨s1, s2, s3⟩ := product_units fx fy
  rw [qmin_b64] at s2 s3
  obtain ⟨u, c', q', r1, r2⟩ := own_round (k + j) (s != t) (c * d) (q + r) (2 * -1074) (a * b) hk (by decide) s2 h (by
    rw [s3, own_signed_ne]
    have e1 : signed s (zmag b64 (.fin s c q)) = a * (2 ^ (1074 - k) : Nat) := x2
    have e2 : signed t (zmag b64 (.fin t d r)) = b * (2 ^ (1074 - j) : Nat) := y2
    rw [e1, e2]
    have e3 : (-1074 - 2 * -1074 : Int).toNat = 1074 := by decide
    rw [e3]
    have e4 : ((2 ^ (1074 - k) : Nat) : Int) * ((2 ^ (1074 - j) : Nat) : Int) = ((2 ^ (1074 - (k + j)) : Nat) : Int) * ((2 ^ 1074 : Nat) : Int) := by
      rw [← Int.natCast_mul, own_pow_add k j hk, Int.natCast_mul]
    generalize ((2 ^ (1074 - k) : Nat) : Int) = P1 at *
    generalize ((2 ^ (1074 - j) : Nat) : Int) = P2 at *
    generalize ((2 ^ (1074 - (k + j)) : Nat) : Int) = P3 at *
    generalize ((2 ^ 1074 : Nat) : Int) = P4 at *
    rw [Int.mul_assoc (a * b), ← e4]
    simp only [Int.mul_assoc, Int.mul_left_comm, Int.mul_comm])
  exact ⟨u, c', q', by rw [show val64 (Jvm.FP.dmul x y) = _ from val64_dmul x y, x1, y1, s1]; exact r1, r2⟩
theorem own_V_nonan {k : Nat} {a : Int} {x : UInt64} (hx : own_V k a x) : Jvm.Free.Fl.NoNaN64 x := by
  obtain ⟨s, c, q, x1, -⟩ := hx
  rw [Jvm.Free.Fl.noNaN64_no, notNaN_iff, x1]
  simp
theorem own_V_cmp {k : Nat} {a b : Int} {x y : UInt64} (hx : own_V k a x) (hy : own_V k b y) : Jvm.FP.dcmp x y = some (compare a b) := by
  obtain ⟨s, c, q, x1, x2⟩ := hx
  obtain ⟨t, d, r, y1, y2⟩ := hy
  have := dcmp_zval (a := x) (b := y) (by rw [x1]; simp) (by rw [y1]; simp)
  rw [x1, y1, x2, y2] at this
  refine this.trans ?_
  congr 1
  have hp : (0 : Int) < ((2 ^ (1074 - k) : Nat) : Int) := by
    have : 0 < 2 ^ (1074 - k) := Nat.pow_pos (by decide)
    omega
  apply compare_congr
  · exact Int.mul_lt_mul_right hp
  · constructor
    · intro q; exact Int.eq_of_mul_eq_mul_right (by omega) q
    · intro q; rw [q]
theorem own_bt (s t : Bool) (h : ¬ (s = false ↔ t = false)) : (s != t) = true := by
  cases s <;> cases t <;> simp_all
theorem own_bf (s t : Bool) (h : s = false ↔ t = false) : (s != t) = false := by
  cases s <;> cases t <;> simp_all
/-- an exact quotient: a / 2^k = (n / 2^i) * (b / 2^j) -/
theorem own_V_div {k j i : Nat} {a b n : Int} {x y : UInt64} (hk : k ≤ 1000) (hi : i ≤ 1000) (hj : j ≤ 1000) (hx : own_V k a x) (hy : own_V j b y) (hb : b ≠ 0) (h : n.natAbs < 2 ^ 53) (he : a * (2 ^ (i + j) : Nat) = n * b * (2 ^ k : Nat)) (hs : a ≠ 0) : own_V i n (Jvm.FP.ddiv x y) := by
  obtain ⟨s, c, q, x1, x2⟩ := hx
  obtain ⟨t, d, r, y1, y2⟩ := hy
  have fx := val64_fits x
  have fy := val64_fits y
  rw [x1] at fx
  rw [y1] at fy
  have q1 := fx.2.1
  have r1 := fy.2.1
  rw [qmin_b64] at q1 r1
  have zx : signed s (c * 2 ^ (q + 1074).toNat) = a * (2 ^ (1074 - k) : Nat) := by
    have : zval b64 (.fin s c q) = signed s (inUnits c q b64.qmin) := rfl
    rw [this, qmin_b64] at x2
    exact x2
  have zy : signed t (d * 2 ^ (r + 1074).toNat) = b * (2 ^ (1074 - j) : Nat) := by
    have : zval b64 (.fin t d r) = signed t (inUnits d r b64.qmin) := rfl
    rw [this, qmin_b64] at y2
    exact y2
  have hd : d ≠ 0 := by
    intro q0
    rw [q0, Nat.zero_mul, signed_zero] at zy
    have p : ((2 ^ (1074 - j) : Nat) : Int) ≠ 0 := by
      have : 0 < 2 ^ (1074 - j) := Nat.pow_pos (by decide)
      omega
    exact (Int.mul_ne_zero hb p) zy.symm
  have ax := congrArg Int.natAbs zx
  have ay := congrArg Int.natAbs zy
  rw [natAbs_signed, Int.natAbs_mul, Int.natAbs_natCast] at ax ay
  have an := congrArg Int.natAbs he
  rw [Int.natAbs_mul, Int.natAbs_mul, Int.natAbs_mul, Int.natAbs_natCast, Int.natAbs_natCast] at an
  obtain ⟨m3, hm3⟩ : ∃ m : Nat, 3000 ≤ m := ⟨3000, Nat.le_refl _⟩
  obtain ⟨c', q', w1, w2⟩ := own_rr (s != t) c d (q - r) (q - r - 1074 - (q + 1074).toNat - (m3 : Int)) n.natAbs i h hi (by omega) (by omega) (by omega) (by
    unfold inUnits
    rw [show (q - r - (q - r - 1074 - ((q + 1074).toNat : Int) - (m3 : Int))).toNat = 1074 + (q + 1074).toNat + m3 by omega]
    have e1 : c * 2 ^ (1074 + (q + 1074).toNat + m3) = a.natAbs * 2 ^ (1074 - k) * 2 ^ (1074 + m3) := by
      rw [show 1074 + (q + 1074).toNat + m3 = (q + 1074).toNat + (1074 + m3) by omega, Nat.pow_add, ← Nat.mul_assoc, ax]
    have e2 : n.natAbs * 2 ^ (1074 - i) * 2 ^ (-1074 - (q - r - 1074 - ((q + 1074).toNat : Int) - (m3 : Int))).toNat * d = n.natAbs * 2 ^ (1074 - i) * (b.natAbs * 2 ^ (1074 - j)) * 2 ^ m3 := by
      rw [← ay, show (-1074 - (q - r - 1074 - ((q + 1074).toNat : Int) - (m3 : Int))).toNat = (r + 1074).toNat + m3 by omega, Nat.pow_add]
      generalize 2 ^ (r + 1074).toNat = A1
      generalize 2 ^ m3 = A2
      generalize 2 ^ (1074 - i) = A3
      simp only [Nat.mul_assoc, Nat.mul_left_comm, Nat.mul_comm]
    rw [e1, e2]
    have e3 : (2 : Nat) ^ (1074 - k) * 2 ^ (1074 + m3) * 2 ^ k = 2 ^ (1074 - i) * 2 ^ (1074 - j) * 2 ^ m3 * 2 ^ (i + j) := by
      rw [← Nat.pow_add, ← Nat.pow_add, ← Nat.pow_add, ← Nat.pow_add, ← Nat.pow_add]; congr 1; omega
    have hp : 0 < 2 ^ (i + j) * 2 ^ k := Nat.mul_pos (Nat.pow_pos (by decide)) (Nat.pow_pos (by decide))
    apply Nat.eq_of_mul_eq_mul_right hp
    have l1 : a.natAbs * 2 ^ (1074 - k) * 2 ^ (1074 + m3) * (2 ^ (i + j) * 2 ^ k) = (a.natAbs * 2 ^ (i + j)) * (2 ^ (1074 - k) * 2 ^ (1074 + m3) * 2 ^ k) := by
      generalize 2 ^ (1074 - k) = A1
      generalize 2 ^ (1074 + m3) = A2
      generalize 2 ^ (i + j) = A3
      generalize 2 ^ k = A4
      simp only [Nat.mul_assoc, Nat.mul_left_comm, Nat.mul_comm]
    have l2 : n.natAbs * 2 ^ (1074 - i) * (b.natAbs * 2 ^ (1074 - j)) * 2 ^ m3 * (2 ^ (i + j) * 2 ^ k) = (n.natAbs * b.natAbs * 2 ^ k) * (2 ^ (1074 - i) * 2 ^ (1074 - j) * 2 ^ m3 * 2 ^ (i + j)) := by
      generalize 2 ^ (1074 - i) = A1
      generalize 2 ^ (1074 - j) = A2
      generalize 2 ^ (i + j) = A3
      generalize 2 ^ k = A4
      generalize 2 ^ m3 = A5
      simp only [Nat.mul_assoc, Nat.mul_left_comm, Nat.mul_comm]
    rw [l1, l2, an, e3])
  have hv : val64 (Jvm.FP.ddiv x y) = roundRatio b64 (s != t) c d (q - r) := by
    rw [show val64 (Jvm.FP.ddiv x y) = _ from val64_ddiv x y, x1, y1]
    show (if d = 0 then _ else _) = _
    rw [if_neg hd]
  refine ⟨s != t, c', q', hv.trans w1, ?_⟩
  show signed (s != t) (zmag b64 (.fin (s != t) c' q')) = _
  rw [w2, signed_mul]
  congr 1
  -- the sign
  have sx : signed s a.natAbs = a := by
    rw [ax, signed_mul] at zx
    have p : ((2 ^ (1074 - k) : Nat) : Int) ≠ 0 := by
      have : 0 < 2 ^ (1074 - k) := Nat.pow_pos (by decide)
      omega
    exact Int.eq_of_mul_eq_mul_right p zx
  have sy : signed t b.natAbs = b := by
    rw [ay, signed_mul] at zy
    have p : ((2 ^ (1074 - j) : Nat) : Int) ≠ 0 := by
      have : 0 < 2 ^ (1074 - j) := Nat.pow_pos (by decide)
      omega
    exact Int.eq_of_mul_eq_mul_right p zy
  have hn0 : n ≠ 0 := by
    intro q0
    rw [q0, Int.zero_mul, Int.zero_mul] at he
    have p : ((2 ^ (i + j) : Nat) : Int) ≠ 0 := by
      have : 0 < 2 ^ (i + j) := Nat.pow_pos (by decide)
      omega
    exact (Int.mul_ne_zero hs p) he
  have p1 : (0 : Int) < ((2 ^ (i + j) : Nat) : Int) := by
    have : 0 < 2 ^ (i + j) := Nat.pow_pos (by decide)
    omega
  have p2 : (0 : Int) < ((2 ^ k : Nat) : Int) := by
    have : 0 < 2 ^ k := Nat.pow_pos (by decide)
    omega
  generalize ((2 ^ (i + j) : Nat) : Int) = P1 at *
  generalize ((2 ^ k : Nat) : Int) = P2 at *
  -- signs: a and n * b agree
  have hsg : 0 < a ↔ 0 < n * b := by
    constructor
    · intro q
      have : 0 < n * b * P2 := he ▸ Int.mul_pos q p1
      rcases Int.lt_or_le 0 (n * b) with z | z
      · exact z
      · have := Int.mul_nonpos_of_nonpos_of_nonneg z (Int.le_of_lt p2)
        omega
    · intro q
      have : 0 < a * P1 := he ▸ Int.mul_pos q p2
      rcases Int.lt_or_le 0 a with z | z
      · exact z
      · have := Int.mul_nonpos_of_nonpos_of_nonneg z (Int.le_of_lt p1)
        omega
  have s1 : signed (s != t) n.natAbs = n := by
    have ha : (s = false ↔ 0 < a) := by
      cases s with
      | false => simp only [true_iff]; have : (a.natAbs : Int) = a := sx; omega
      | true => simp only [Bool.true_eq_false, false_iff]; have : -(a.natAbs : Int) = a := sx; omega
    have hbb : (t = false ↔ 0 < b) := by
      cases t with
      | false => simp only [true_iff]; have : (b.natAbs : Int) = b := sy; omega
      | true => simp only [Bool.true_eq_false, false_iff]; have : -(b.natAbs : Int) = b := sy; omega
    rcases Int.lt_or_gt_of_ne hn0 with nneg | npos
    · have k1 : ¬ (0 < a ↔ 0 < b) := by
        intro q
        rw [hsg] at q
        rcases Int.lt_or_gt_of_ne hb with bneg | bpos
        · have : 0 < n * b := Int.mul_pos_of_neg_of_neg nneg bneg
          have := q.mp this
          omega
        · have := q.mpr bpos
          have : n * b < 0 := Int.mul_neg_of_neg_of_pos nneg bpos
          omega
      have k2 : ¬ (s = false ↔ t = false) := fun z => k1 (ha.symm.trans (z.trans hbb))
      have : (s != t) = true := own_bt s t k2
      rw [this]
      show -(n.natAbs : Int) = n
      omega
    · have k1 : (0 < a ↔ 0 < b) := by
        rw [hsg]
        constructor
        · intro q
          rcases Int.lt_or_gt_of_ne hb with bneg | bpos
          · have : n * b < 0 := Int.mul_neg_of_pos_of_neg npos bneg
            omega
          · exact bpos
        · intro q
          exact Int.mul_pos npos q
      have k2 : (s = false ↔ t = false) := ha.trans (k1.trans hbb.symm)
      have : (s != t) = false := own_bf s t k2
      rw [this]
      show (n.natAbs : Int) = n
      omega
  exact s1
end OwnFP
section OwnFW
open Jvm.FP.Core
theorem own_V_div0 {k j i : Nat} {b : Int} {x y : UInt64} (hx : own_V k 0 x) (hy : own_V j b y) (hb : b ≠ 0) : own_V i 0 (Jvm.FP.ddiv x y) := by
  obtain ⟨s, c, q, x1, x2⟩ := hx
  obtain ⟨t, d, r, y1, y2⟩ := hy
  have hc : c = 0 := by
    rw [Int.zero_mul] at x2
    have : signed s (inUnits c q b64.qmin) = 0 := x2
    rw [signed_eq_zero] at this
    unfold inUnits at this
    rcases Nat.mul_eq_zero.mp this with z | z
    · exact z
    · exact absurd z (Nat.ne_of_gt (Nat.pow_pos (by decide)))
  have hd : d ≠ 0 := by
    intro q0
    subst q0
    have : signed t (inUnits 0 r b64.qmin) = b * (2 ^ (1074 - j) : Nat) := y2
    unfold inUnits at this
    rw [Nat.zero_mul, signed_zero] at this
    have p : ((2 ^ (1074 - j) : Nat) : Int) ≠ 0 := by
      have : 0 < 2 ^ (1074 - j) := Nat.pow_pos (by decide)
      omega
    exact (Int.mul_ne_zero hb p) this.symm
  subst hc
  refine ⟨s != t, 0, b64.qmin, ?_, ?_⟩
  · rw [show val64 (Jvm.FP.ddiv x y) = _ from val64_ddiv x y, x1, y1]
    show (if d = 0 then _ else roundRatio b64 (s != t) 0 d (q - r)) = _
    rw [if_neg hd]
    rfl
  · show signed (s != t) (inUnits 0 b64.qmin b64.qmin) = _
    unfold inUnits
    rw [Nat.zero_mul, signed_zero, Int.zero_mul]
end OwnFW
section OwnSolve
open Jvm.FP.Core
theorem own_V_i2d (x : Int32) : own_V 0 x.toInt (Jvm.FP.i2d x) := by
  rw [i2d_w, ← Int32.toInt_toInt64 x]
  apply own_V_l2d
  rw [Int32.toInt_toInt64]
  have := x.le_toInt
  have := x.toInt_lt
  omega
theorem own_V_up {k : Nat} {n : Int} {x : UInt64} (i : Nat) (hx : own_V k n x) (hk : k + i ≤ 1000) : own_V (k + i) (n * (2 ^ i : Nat)) x := by
  obtain ⟨s, c, q, h1, h2⟩ := hx
  refine ⟨s, c, q, h1, ?_⟩
  rw [h2, Int.mul_assoc]
  congr 1
  rw [show 1074 - k = i + (1074 - (k + i)) by omega, Nat.pow_add]
  simp
theorem own_V_eq {k : Nat} {n m : Int} {x : UInt64} (hx : own_V k n x) (h : n = m) : own_V k m x := h ▸ hx
theorem own_V_0 : own_V 0 0 (0 : UInt64) := by
  have h := own_V_i2d 0
  have e : Jvm.FP.i2d 0 = 0 := by decide +kernel
  rw [e] at h
  exact h
theorem own_V_k0 {x : UInt64} (k : Nat) (hx : own_V 0 0 x) (hk : k ≤ 1000) : own_V k 0 x := by
  have h := own_V_up k hx (by omega)
  rw [Int.zero_mul, Nat.zero_add] at h
  exact h
theorem own_V_dv {k i : Nat} {a b b' : Int} {x y : UInt64} (hk : k + i ≤ 1000) (hx : own_V k a x) (hy : own_V 0 b y) (hb : b * b' = (2 ^ i : Nat)) (h : (a * b').natAbs < 2 ^ 53) : own_V (k + i) (a * b') (Jvm.FP.ddiv x y) := by
  have hb0 : b ≠ 0 := by
    intro q
    rw [q, Int.zero_mul] at hb
    have : 0 < 2 ^ i := Nat.pow_pos (by decide)
    omega
  by_cases ha : a = 0
  · subst ha
    rw [Int.zero_mul]
    exact own_V_div0 hx hy hb0
  · refine own_V_div (k := k) (j := 0) (by omega) (by omega) (by omega) hx hy hb0 h ?_ ha
    rw [Int.mul_assoc a b' b, Int.mul_comm b' b, hb, Nat.add_zero, Nat.pow_add, Int.mul_assoc]
    congr 1
    rw [← Int.natCast_mul, Nat.mul_comm]
theorem own_ab {a b : Int} {A B : Nat} (ha : a.natAbs ≤ A) (hb : b.natAbs ≤ B) : (a * b).natAbs ≤ A * B := by
  rw [Int.natAbs_mul]
  exact Nat.mul_le_mul ha hb
/-- x - d * 0 -/
theorem own_V_z0 {k : Nat} {n D : Int} {x d z : UInt64} (hk : k ≤ 1000) (hx : own_V k n x) (hd : own_V 0 D d) (hz : own_V 0 0 z) (h : n.natAbs < 2 ^ 53) : own_V 0 0 (Jvm.FP.dmul d z) ∧ own_V k n (Jvm.FP.dsub x (Jvm.FP.dmul d z)) := by
  have m : own_V 0 0 (Jvm.FP.dmul d z) := own_V_eq (own_V_mul (k := 0) (j := 0) (by omega) hd hz (by rw [Int.mul_zero]; decide)) (Int.mul_zero D)
  refine ⟨m, ?_⟩
  exact own_V_eq (own_V_sub hk hx (own_V_k0 k m hk) (by rw [Int.sub_zero]; exact h)) (Int.sub_zero n)
/-- the reduced right-hand side -/
theorem own_numR {R0 R1 M : Int} {r0 r1 dm : UInt64} (h0 : own_V 0 R0 r0) (h1 : own_V 0 R1 r1) (hm : own_V 0 M dm) (b0 : R0.natAbs ≤ 2147483648) (b1 : R1.natAbs ≤ 2147483648) (bm : M.natAbs ≤ 8) :
    own_V 0 (M * R0) (Jvm.FP.dmul dm r0) ∧ own_V 0 (R1 - M * R0) (Jvm.FP.dsub r1 (Jvm.FP.dmul dm r0)) := by
  have b := own_ab bm b0
  have m : own_V 0 (M * R0) (Jvm.FP.dmul dm r0) := own_V_mul (k := 0) (j := 0) (by omega) hm h0 (by omega)
  exact ⟨m, own_V_sub (by omega) h1 m (by omega)⟩
theorem own_numV {R0 R1 M : Int} (b0 : R0.natAbs ≤ 2147483648) (b1 : R1.natAbs ≤ 2147483648) (bm : M.natAbs ≤ 8) : (R1 - M * R0).natAbs ≤ 34359738368 := by
  have b := own_ab bm b0
  omega
theorem own_numX {V C C' : Int} {v dc : UInt64} (hv : own_V 0 V v) (hc : own_V 0 C dc) (cc : C * C' = 8) (bc : C'.natAbs ≤ 8) (bv : V.natAbs ≤ 34359738368) : own_V 3 (V * C') (Jvm.FP.ddiv v dc) := by
  have b := own_ab bv bc
  exact own_V_dv (k := 0) (i := 3) (by omega) hv hc cc (by omega)
theorem own_numT {R0 B N : Int} {r0 db x1 : UInt64} (h0 : own_V 0 R0 r0) (hb : own_V 0 B db) (hx : own_V 3 N x1) (b0 : R0.natAbs ≤ 2147483648) (bb : B.natAbs ≤ 8) (bn : N.natAbs ≤ 274877906944) :
    own_V 3 (B * N) (Jvm.FP.dmul db x1) ∧ own_V 3 (R0 * 8 - B * N) (Jvm.FP.dsub r0 (Jvm.FP.dmul db x1)) ∧ (R0 * 8 - B * N).natAbs ≤ 4398046511104 := by
  have b := own_ab bb bn
  have m : own_V 3 (B * N) (Jvm.FP.dmul db x1) := own_V_mul (k := 0) (j := 3) (by omega) hb hx (by omega)
  exact ⟨m, own_V_sub (by omega) (own_V_up 3 h0 (by omega)) m (by omega), by omega⟩
theorem own_numY {T A A' : Int} {t da : UInt64} (ht : own_V 3 T t) (ha : own_V 0 A da) (aa : A * A' = 8) (ba : A'.natAbs ≤ 8) (bt : T.natAbs ≤ 4398046511104) : own_V 6 (T * A') (Jvm.FP.ddiv t da) := by
  have b := own_ab bt ba
  exact own_V_dv (k := 3) (i := 3) (by omega) ht ha aa (by omega)
/-- the law's own rows -/
theorem own_tail {R0 R1 M A A' B C C' V : Int} {r0 r1 me da db dc dp x0 x1 : UInt64} (h0 : own_V 0 R0 r0) (h1 : own_V 0 R1 r1) (hm : own_V 0 M me) (ha : own_V 0 A da) (hb : own_V 0 B db) (hc : own_V 0 C dc) (hp : own_V 0 0 dp)
    (aa : A * A' = 8) (cc : C * C' = 8) (ba : A'.natAbs ≤ 8) (bc : C'.natAbs ≤ 8) (bb : B.natAbs ≤ 8) (bm : M.natAbs ≤ 8) (b0 : R0.natAbs ≤ 2147483648) (b1 : R1.natAbs ≤ 2147483648) (hV : V = R1 - M * R0)
    (hx1 : own_V 3 (V * C') x1) (hx0 : own_V 6 ((R0 * 8 - B * (V * C')) * A') x0) :
    NoNaN64 (Jvm.FP.dmul da x0) ∧ NoNaN64 (Jvm.FP.dmul db x1) ∧ NoNaN64 (Jvm.FP.dadd (Jvm.FP.dmul da x0) (Jvm.FP.dmul db x1)) ∧ NoNaN64 (Jvm.FP.dadd (Jvm.FP.dadd (Jvm.FP.dmul da x0) (Jvm.FP.dmul db x1)) dp) ∧
    NoNaN64 (Jvm.FP.dmul dc x1) ∧ NoNaN64 (Jvm.FP.dadd (Jvm.FP.dmul dc x1) dp) ∧
    NoNaN64 (Jvm.FP.dmul me (Jvm.FP.dadd (Jvm.FP.dadd (Jvm.FP.dmul da x0) (Jvm.FP.dmul db x1)) dp)) ∧ NoNaN64 (Jvm.FP.dadd (Jvm.FP.dmul me (Jvm.FP.dadd (Jvm.FP.dadd (Jvm.FP.dmul da x0) (Jvm.FP.dmul db x1)) dp)) (Jvm.FP.dadd (Jvm.FP.dmul dc x1) dp)) ∧
    Jvm.FP.dcmp (Jvm.FP.dadd (Jvm.FP.dadd (Jvm.FP.dmul da x0) (Jvm.FP.dmul db x1)) dp) r0 = some .eq ∧
    Jvm.FP.dcmp (Jvm.FP.dadd (Jvm.FP.dmul me (Jvm.FP.dadd (Jvm.FP.dadd (Jvm.FP.dmul da x0) (Jvm.FP.dmul db x1)) dp)) (Jvm.FP.dadd (Jvm.FP.dmul dc x1) dp)) r1 = some .eq := by
  have bv : V.natAbs ≤ 34359738368 := hV ▸ own_numV b0 b1 bm
  have bn := own_ab bv bc
  have bbn := own_ab bb bn
  have bmr := own_ab bm b0
  obtain ⟨N, hN⟩ : ∃ N, N = V * C' := ⟨_, rfl⟩
  rw [← hN] at hx1 hx0 bn bbn
  have e1 : A * ((R0 * 8 - B * N) * A') = (R0 * 8 - B * N) * 8 := by
    rw [← aa, Int.mul_left_comm]
  have q1 : own_V 6 ((R0 * 8 - B * N) * 8) (Jvm.FP.dmul da x0) := own_V_eq (own_V_mul (k := 0) (j := 6) (by omega) ha hx0 (by rw [e1]; omega)) e1
  have q2 : own_V 3 (B * N) (Jvm.FP.dmul db x1) := own_V_mul (k := 0) (j := 3) (by omega) hb hx1 (by omega)
  have q2' : own_V 6 (B * N * 8) (Jvm.FP.dmul db x1) := own_V_up 3 q2 (by omega)
  have q3 : own_V 6 (R0 * 64) (Jvm.FP.dadd (Jvm.FP.dmul da x0) (Jvm.FP.dmul db x1)) := own_V_eq (own_V_add (by omega) q1 q2' (by omega)) (by omega)
  have q4 : own_V 6 (R0 * 64) (Jvm.FP.dadd (Jvm.FP.dadd (Jvm.FP.dmul da x0) (Jvm.FP.dmul db x1)) dp) := own_V_eq (own_V_add (by omega) q3 (own_V_k0 6 hp (by omega)) (by omega)) (by omega)
  have e2 : C * N = V * 8 := by rw [hN, ← cc, Int.mul_left_comm]
  have q5 : own_V 3 (V * 8) (Jvm.FP.dmul dc x1) := own_V_eq (own_V_mul (k := 0) (j := 3) (by omega) hc hx1 (by rw [e2]; omega)) e2
  have q6 : own_V 3 (V * 8) (Jvm.FP.dadd (Jvm.FP.dmul dc x1) dp) := own_V_eq (own_V_add (by omega) q5 (own_V_k0 3 hp (by omega)) (by omega)) (by omega)
  have e3 : M * (R0 * 64) = M * R0 * 64 := (Int.mul_assoc _ _ _).symm
  have q7 : own_V 6 (M * R0 * 64) (Jvm.FP.dmul me (Jvm.FP.dadd (Jvm.FP.dadd (Jvm.FP.dmul da x0) (Jvm.FP.dmul db x1)) dp)) := own_V_eq (own_V_mul (k := 0) (j := 6) (by omega) hm q4 (by rw [e3]; omega)) e3
  have q6' : own_V 6 (V * 8 * 8) (Jvm.FP.dadd (Jvm.FP.dmul dc x1) dp) := own_V_up 3 q6 (by omega)
  have q8 : own_V 6 (R1 * 64) (Jvm.FP.dadd (Jvm.FP.dmul me (Jvm.FP.dadd (Jvm.FP.dadd (Jvm.FP.dmul da x0) (Jvm.FP.dmul db x1)) dp)) (Jvm.FP.dadd (Jvm.FP.dmul dc x1) dp)) := own_V_eq (own_V_add (by omega) q7 q6' (by omega)) (by omega)
  have z0 : own_V 6 (R0 * 64) r0 := own_V_up 6 h0 (by omega)
  have z1 : own_V 6 (R1 * 64) r1 := own_V_up 6 h1 (by omega)
  have ce : ∀ n : Int, compare n n = Ordering.eq := fun n => by simp [compare, compareOfLessAndEq]
  exact ⟨own_V_nonan q1, own_V_nonan q2, own_V_nonan q3, own_V_nonan q4, own_V_nonan q5, own_V_nonan q6, own_V_nonan q7, own_V_nonan q8, by rw [own_V_cmp q4 z0, ce], by rw [own_V_cmp q8 z1, ce]⟩
end OwnSolve
abbrev own_K (p : Program) (e : Env) (below : List Frame) (G0 T : State) (f : JFrame) : Prop := ∀ t, Steps p.tables e below (T.setTop f) t → Steps p.tables e below G0 t
abbrev own_S (p : Program) (e : Env) (below : List Frame) (T : State) (f : JFrame) (t : State) : Prop := Steps p.tables e below (T.setTop f) t
def own_R (n : Int32) : Prop := n = 0 ∨ n = 1 ∨ n = 2
def own_l3 (f : Int32 → Value) : List Value := [f 0, f 1, f 2]
def own_u (e : Int32) (v : Value) (f : Int32 → Value) : Int32 → Value := fun i => if i = e then v else f i
theorem own_u1 {e : Int32} {v : Value} {f : Int32 → Value} : own_u e v f e = v := if_pos rfl
theorem own_u2 {e i : Int32} {v : Value} {f : Int32 → Value} (h : i ≠ e) : own_u e v f i = f i := if_neg h
theorem own_g3 {f : Int32 → Value} {e : Int32} (h : own_R e) {d : Value} : (own_l3 f).getD e.toNatClampNeg d = f e := by
  rcases h with rfl | rfl | rfl <;> rfl
theorem own_s3 {f : Int32 → Value} {e : Int32} (h : own_R e) (v : Value) : (own_l3 f).set e.toNatClampNeg v = own_l3 (own_u e v f) := by
  rcases h with rfl | rfl | rfl <;> rfl
theorem own_in3 {e : Int32} (h : own_R e) : ¬ e < 0 ∧ e < (3 : Int32) := by
  rcases h with rfl | rfl | rfl <;> decide
theorem own_n3 {f : Int32 → Value} {e : Int32} (h : own_R e) : e.toNatClampNeg < (own_l3 f).length := by
  show _ < 3
  rcases h with rfl | rfl | rfl <;> decide
def own_P (x y z : Int32) : Prop := own_R x ∧ own_R y ∧ own_R z ∧ x ≠ y ∧ x ≠ z ∧ y ≠ z
theorem own_ix (x : Int32) : ((x &&& (7 : Int32)) % (6 : Int32)) = 0 ∨ ((x &&& (7 : Int32)) % (6 : Int32)) = 1 ∨ ((x &&& (7 : Int32)) % (6 : Int32)) = 2 ∨ ((x &&& (7 : Int32)) % (6 : Int32)) = 3 ∨ ((x &&& (7 : Int32)) % (6 : Int32)) = 4 ∨ ((x &&& (7 : Int32)) % (6 : Int32)) = 5 := by
  have g := c_mask x 7 3 (by decide) (by decide)
  have e : ((2 ^ 3 : Nat) : Int) = 8 := by decide
  rw [e] at g
  have r := (c_irem (x &&& (7 : Int32)) 6 6 (by decide)).1 (by omega)
  have e0 : (0 : Int32).toInt = 0 := by decide
  have e1 : (1 : Int32).toInt = 1 := by decide
  have e2 : (2 : Int32).toInt = 2 := by decide
  have e3 : (3 : Int32).toInt = 3 := by decide
  have e4 : (4 : Int32).toInt = 4 := by decide
  have e5 : (5 : Int32).toInt = 5 := by decide
  simp only [← Int32.toInt_inj, e0, e1, e2, e3, e4, e5, r]
  omega
theorem own_B8 (x : Int32) : ((x &&& (15 : Int32)) - (8 : Int32)).toInt.natAbs ≤ 8 := by
  have t : ∀ k : Fin 16, ((Int32.ofNat k.val) - (8 : Int32)).toInt.natAbs ≤ 8 := by decide +kernel
  have h : (x &&& 15).toBitVec.toNat < 16 := by
    simp only [Int32.toBitVec_and, BitVec.toNat_and]
    exact Nat.lt_succ_of_le Nat.and_le_right
  have e : (x &&& 15) = Int32.ofNat (x &&& 15).toBitVec.toNat := by
    apply Int32.toBitVec_inj.mp
    show _ = BitVec.ofNat 32 _
    rw [BitVec.ofNat_toNat]; simp
  rw [e]
  exact t ⟨_, h⟩
theorem own_A8 (x : Int32) (c : Prop) [Decidable c] : ∃ A' : Int, (if c then ((1 : Int32) <<< ((x &&& (3 : Int32)) &&& 31)) else (-((1 : Int32) <<< ((x &&& (3 : Int32)) &&& 31)))).toInt * A' = 8 ∧ A'.natAbs ≤ 8 := by
  have g := c_mask x 3 2 (by decide) (by decide)
  have e : ((2 ^ 2 : Nat) : Int) = 4 := by decide
  rw [e] at g
  have k : (x &&& (3 : Int32)) = 0 ∨ (x &&& (3 : Int32)) = 1 ∨ (x &&& (3 : Int32)) = 2 ∨ (x &&& (3 : Int32)) = 3 := by
    have e0 : (0 : Int32).toInt = 0 := by decide
    have e1 : (1 : Int32).toInt = 1 := by decide
    have e2 : (2 : Int32).toInt = 2 := by decide
    have e3 : (3 : Int32).toInt = 3 := by decide
    simp only [← Int32.toInt_inj, e0, e1, e2, e3]
    omega
  rcases k with k | k | k | k <;> rw [k] <;> split
  · exact ⟨8, by decide, by decide⟩
  · exact ⟨-8, by decide, by decide⟩
  · exact ⟨4, by decide, by decide⟩
  · exact ⟨-4, by decide, by decide⟩
  · exact ⟨2, by decide, by decide⟩
  · exact ⟨-2, by decide, by decide⟩
  · exact ⟨1, by decide, by decide⟩
  · exact ⟨-1, by decide, by decide⟩
theorem own_I32 (x : Int32) : x.toInt.natAbs ≤ 2147483648 := by
  have := x.le_toInt
  have := x.toInt_lt
  omega
def own_Fac (Z : State) (h : Heap) (f rb ml ln pe pu pc : Addr) (kr km kl ke ku kc : ClassId) (z cnt : Int32) (rd : Int64) (lrb lml lln lpe lpu lpc : List Value) : Prop :=
  Exa Z h f "com/example/sondage/sondage/inference/Factorization" ∧ Fld Z h f "com/example/sondage/sondage/inference/Factorization" "unknownCount" "I" (.int z) ∧ Fld Z h f "com/example/sondage/sondage/inference/Factorization" "pivotCount" "I" (.int cnt) ∧ Fld Z h f "com/example/sondage/sondage/inference/Factorization" "reductions" "J" (.long rd) ∧ Fld Z h f "com/example/sondage/sondage/inference/Factorization" "reducedBy" "[[I" (.ref rb) ∧ Fld Z h f "com/example/sondage/sondage/inference/Factorization" "multipliers" "[[D" (.ref ml) ∧ Fld Z h f "com/example/sondage/sondage/inference/Factorization" "lengths" "[I" (.ref ln) ∧ Fld Z h f "com/example/sondage/sondage/inference/Factorization" "pivotEquation" "[I" (.ref pe) ∧ Fld Z h f "com/example/sondage/sondage/inference/Factorization" "pivotUnknowns" "[[I" (.ref pu) ∧ Fld Z h f "com/example/sondage/sondage/inference/Factorization" "pivotCoefficients" "[[D" (.ref pc) ∧ Arv Z h rb kr (.array .int) z lrb .null ∧ Arv Z h ml km (.array .double) z lml .null ∧ Arv Z h ln kl .int z lln (.int (0 : Int32)) ∧ Arv Z h pe ke .int z lpe (.int (0 : Int32)) ∧ Arv Z h pu ku (.array .int) z lpu .null ∧ Arv Z h pc kc (.array .double) z lpc .null
def own_Sep (Z : State) (n0 : Nat) (f rb ml ln pe pu pc : Addr) (kr km ku kc : ClassId) : Prop :=
  n0 ≤ f ∧ n0 ≤ rb ∧ n0 ≤ ml ∧ n0 ≤ ln ∧ n0 ≤ pe ∧ n0 ≤ pu ∧ n0 ≤ pc ∧ f ≠ rb ∧ f ≠ ml ∧ f ≠ ln ∧ f ≠ pe ∧ f ≠ pu ∧ f ≠ pc ∧ rb ≠ ml ∧ rb ≠ ln ∧ rb ≠ pe ∧ rb ≠ pu ∧ rb ≠ pc ∧ ml ≠ ln ∧ ml ≠ pe ∧ ml ≠ pu ∧ ml ≠ pc ∧ ln ≠ pe ∧ ln ≠ pu ∧ ln ≠ pc ∧ pe ≠ pu ∧ pe ≠ pc ∧ pu ≠ pc ∧ OvrA Z kr .int "[I" ∧ OvrA Z km .double "[D" ∧ OvrA Z ku .int "[I" ∧ OvrA Z kc .double "[D"
theorem own_Sep.mono {Z : State} {k n : Nat} {f rb ml ln pe pu pc : Addr} {kr km ku kc : ClassId} (hk : k ≤ n) (S : own_Sep Z n f rb ml ln pe pu pc kr km ku kc) : own_Sep Z k f rb ml ln pe pu pc kr km ku kc := by
  obtain ⟨s0, s1, s2, s3, s4, s5, s6, r⟩ := S
  exact ⟨Nat.le_trans hk s0, Nat.le_trans hk s1, Nat.le_trans hk s2, Nat.le_trans hk s3, Nat.le_trans hk s4, Nat.le_trans hk s5, Nat.le_trans hk s6, r⟩
theorem d3_0 : decode jdk_29_method_69_code 0 = .ok (.iload_n 0, 1) := by decide +kernel
theorem d3_1 : decode jdk_29_method_69_code 1 = .ok (.iload_n 1, 1) := by decide +kernel
theorem d3_2 : decode jdk_29_method_69_code 2 = .ok (.if_icmp .gt 7, 3) := by decide +kernel
theorem d3_5 : decode jdk_29_method_69_code 5 = .ok (.iload_n 0, 1) := by decide +kernel
theorem d3_6 : decode jdk_29_method_69_code 6 = .ok (.goto 4, 3) := by decide +kernel
theorem d3_9 : decode jdk_29_method_69_code 9 = .ok (.iload_n 1, 1) := by decide +kernel
theorem d3_10 : decode jdk_29_method_69_code 10 = .ok (.ireturn, 1) := by decide +kernel
theorem ef_rm3 (m : MethodId) (p0 : Int32) (p1 : Int32) : entryFrame m #[(.int p0), (.int p1)] 2 = (mkF m 0 #[.val (.int p0), .val (.int p1)] []) := by first | (simp [entryFrame, mkF, argsToLocals, Value.category]; done) | rfl
def Q3 (Z : State) (p0 : Int32) (p1 : Int32) (h0 : Heap) (n0 : Nat) (v : Option Value) (h : Heap) (L : List Loc) : Prop := v = some (.int p0) ∧ Fr n0 L ∧ h = h0
set_option maxRecDepth 65536 in
set_option maxHeartbeats 40000000 in
theorem rm3 (l : Launch) (Z : State) (aa : Array Value) (hw : ∀ d ∈ tables_1, d.before aa Z = true) (ws : List Jvm.Cond) (p0 : Int32) (p1 : Int32) (h0 : Heap) (n0 : Nat) (Z0 : n0 ≤ h0.size) (hle : ¬ p1 < p0) :
    MetFree l (⟨"java/lang/Math", "min", "(II)I"⟩ : MethodName) (head1 (Jvm.Cond.code (⟨"java/lang/Math", "min", "(II)I"⟩ : MethodName) jdk_29_method_69_code 2 (some .int) :: ws) ({ frames := 0, cells := 0, slots := 0, locals := 0 } : Room)) (fun a U => a = #[(.int p0), (.int p1)] ∧ Z.Warmed39 U.vm ∧ U.heap = h0) (fun _ _ _ _ _ => True) (fun _ U o U' => ∃ v L, o = .returned v ∧ Q3 Z p0 p1 h0 n0 v U'.heap L ∧ FrameEnd U o U' L ({ frames := 0, cells := 0, slots := 0, locals := 0 } : Room).cells ({ frames := 0, cells := 0, slots := 0, locals := 0 } : Room).slots) := by
  refine MetFree.of_bodySF (Jvm.Free.JP.mathPlain rfl (by decide +kernel)) hisR ?_
  intro p e s m args below meth c s₁ Bd hml0 hP hK
  obtain ⟨rfl, hZ, hh⟩ := hP
  have hx := Bd.exec
  have hby := Bd.bytes
  have hml : c.maxLocals = 2 := hml0
  have hown : s.vm.findClass "java/lang/Math" = some m.cls := findClass_of_methodNamed Bd.named
  have hnm := (name_of_methodNamed Bd.named Bd.method).1
  have X0 : Stand p l e ({ frames := 0, cells := 0, slots := 0, locals := 0 } : Room) s m #[(.int p0), (.int p1)] below meth c s₁ [] 0 0 := Stand.of_body Bd
  have e0 : s₁.heap = h0 := by rw [← hh, Bd.state]; rfl
  have N0 := Fr.nil n0
  obtain ⟨G0, hG0⟩ : ∃ G, G = s₁.setTop (entryFrame m #[(.int p0), (.int p1)] 2) := ⟨_, rfl⟩
  have K0 : own_K p e below G0 s₁ (mkF m 0 #[.val (.int p0), .val (.int p1)] []) := fun t k => by rw [hG0]; exact castTop (ef_rm3 m p0 p1) k
  have K1 : own_K p e below G0 s₁ (mkF m 10 #[.val (.int p0), .val (.int p1)] [(.int p0)]) := by
    intro t kt
    refine K0 t ?_
    refine XS.iloadN X0.here hx rfl (hb hby d3_0) rfl ?_
    show own_S p e below s₁ (mkF m 1 _ [(.int p0)]) _
    refine XS.iloadN X0.here hx rfl (hb hby d3_1) rfl ?_
    show own_S p e below s₁ (mkF m 2 _ [(.int p1), (.int p0)]) _
    refine XS.icmpNo X0.here hx rfl (hb hby d3_2) rfl (flt hle).2.2.1 ?_
    show own_S p e below s₁ (mkF m 5 _ []) _
    refine XS.iloadN X0.here hx rfl (hb hby d3_5) rfl ?_
    show own_S p e below s₁ (mkF m 6 _ [(.int p0)]) _
    refine XS.goto X0.here hx rfl (pc0 := 6) (pc' := 10) rfl (hb hby d3_6) (by decide) (by decide) ?_
    show own_S p e below s₁ (mkF m 10 _ [(.int p0)]) _
    exact kt
  obtain ⟨fs, hr, hrun, hended, hW, hsame⟩ := X0.leave (v := some (.int p0)) (fun h => by rw [Bd.returns] at h; cases h)
  refine ⟨_, _, ?_, hrun, hended, _, _, rfl, ?_, ⟨_, rfl⟩, hW, hsame.mono (by decide) (by decide)⟩
  · rw [← hG0]
    refine K1 _ ?_
    exact retOut X0 hx (t := .int) Bd.returns rfl (Or.inl ⟨rfl, Or.inl rfl, _, rfl⟩) (hb hby d3_10) hr
  · show Q3 Z p0 p1 h0 n0 _ s₁.heap _
    rw [e0]
    exact ⟨rfl, N0, rfl⟩
theorem d1_0 : decode prog_18_method_1_code 0 = .ok (.aload_n 0, 1) := by decide +kernel
theorem d1_1 : decode prog_18_method_1_code 1 = .ok (.invokespecial 1, 3) := by decide +kernel
theorem d1_4 : decode prog_18_method_1_code 4 = .ok (.aload_n 0, 1) := by decide +kernel
theorem d1_5 : decode prog_18_method_1_code 5 = .ok (.iload_n 1, 1) := by decide +kernel
theorem d1_6 : decode prog_18_method_1_code 6 = .ok (.putfield 7, 3) := by decide +kernel
theorem d1_9 : decode prog_18_method_1_code 9 = .ok (.aload_n 0, 1) := by decide +kernel
theorem d1_10 : decode prog_18_method_1_code 10 = .ok (.iload_n 1, 1) := by decide +kernel
theorem d1_11 : decode prog_18_method_1_code 11 = .ok (.newarray .boolean, 2) := by decide +kernel
theorem d1_13 : decode prog_18_method_1_code 13 = .ok (.putfield 13, 3) := by decide +kernel
theorem d1_16 : decode prog_18_method_1_code 16 = .ok (.aload_n 0, 1) := by decide +kernel
theorem d1_17 : decode prog_18_method_1_code 17 = .ok (.iload_n 2, 1) := by decide +kernel
theorem d1_18 : decode prog_18_method_1_code 18 = .ok (.anewarray 17, 3) := by decide +kernel
theorem d1_21 : decode prog_18_method_1_code 21 = .ok (.putfield 19, 3) := by decide +kernel
theorem d1_24 : decode prog_18_method_1_code 24 = .ok (.aload_n 0, 1) := by decide +kernel
theorem d1_25 : decode prog_18_method_1_code 25 = .ok (.iload_n 2, 1) := by decide +kernel
theorem d1_26 : decode prog_18_method_1_code 26 = .ok (.anewarray 23, 3) := by decide +kernel
theorem d1_29 : decode prog_18_method_1_code 29 = .ok (.putfield 25, 3) := by decide +kernel
theorem d1_32 : decode prog_18_method_1_code 32 = .ok (.aload_n 0, 1) := by decide +kernel
theorem d1_33 : decode prog_18_method_1_code 33 = .ok (.iload_n 2, 1) := by decide +kernel
theorem d1_34 : decode prog_18_method_1_code 34 = .ok (.newarray .int, 2) := by decide +kernel
theorem d1_36 : decode prog_18_method_1_code 36 = .ok (.putfield 29, 3) := by decide +kernel
theorem d1_39 : decode prog_18_method_1_code 39 = .ok (.iload_n 1, 1) := by decide +kernel
theorem d1_40 : decode prog_18_method_1_code 40 = .ok (.iload_n 2, 1) := by decide +kernel
theorem d1_41 : decode prog_18_method_1_code 41 = .ok (.invokestatic 32, 3) := by decide +kernel
theorem d1_44 : decode prog_18_method_1_code 44 = .ok (.istore_n 3, 1) := by decide +kernel
theorem d1_45 : decode prog_18_method_1_code 45 = .ok (.aload_n 0, 1) := by decide +kernel
theorem d1_46 : decode prog_18_method_1_code 46 = .ok (.iload_n 3, 1) := by decide +kernel
theorem d1_47 : decode prog_18_method_1_code 47 = .ok (.newarray .int, 2) := by decide +kernel
theorem d1_49 : decode prog_18_method_1_code 49 = .ok (.putfield 38, 3) := by decide +kernel
theorem d1_52 : decode prog_18_method_1_code 52 = .ok (.aload_n 0, 1) := by decide +kernel
theorem d1_53 : decode prog_18_method_1_code 53 = .ok (.iload_n 3, 1) := by decide +kernel
theorem d1_54 : decode prog_18_method_1_code 54 = .ok (.anewarray 17, 3) := by decide +kernel
theorem d1_57 : decode prog_18_method_1_code 57 = .ok (.putfield 41, 3) := by decide +kernel
theorem d1_60 : decode prog_18_method_1_code 60 = .ok (.aload_n 0, 1) := by decide +kernel
theorem d1_61 : decode prog_18_method_1_code 61 = .ok (.iload_n 3, 1) := by decide +kernel
theorem d1_62 : decode prog_18_method_1_code 62 = .ok (.anewarray 23, 3) := by decide +kernel
theorem d1_65 : decode prog_18_method_1_code 65 = .ok (.putfield 44, 3) := by decide +kernel
theorem d1_68 : decode prog_18_method_1_code 68 = .ok (.return_, 1) := by decide +kernel
theorem pn_com_example_sondage_sondage_inference_Factorization : plainName "com/example/sondage/sondage/inference/Factorization" = true := by first | (simp [plainName, overriddenIn]; done) | decide +kernel
theorem pd_PIIQI : parseMethodDescriptor "(II)I" = some ⟨[.int, .int], some .int⟩ := by decide +kernel
theorem ef_rm1 (m : MethodId) (a0 : Addr) : entryFrame m #[(.ref a0), (.int (3 : Int32)), (.int (3 : Int32))] 4 = (mkF m 0 #[.val (.ref a0), .val (.int (3 : Int32)), .val (.int (3 : Int32)), .unset] []) := by first | (simp [entryFrame, mkF, argsToLocals, Value.category]; done) | rfl
def Q1 (Z : State) (a0 : Addr) (u_unknownCount : Value) (u_determined : Value) (u_reducedBy : Value) (u_multipliers : Value) (u_lengths : Value) (u_pivotEquation : Value) (u_pivotUnknowns : Value) (u_pivotCoefficients : Value) (h0 : Heap) (n0 : Nat) (v : Option Value) (h : Heap) (L : List Loc) : Prop := v = none ∧ Fr n0 L ∧ Keep h0 h [a0] ∧ ∃ (rb ml ln pe pu pc : Addr) (kr km kl ke ku kc : ClassId), own_Sep Z n0 a0 rb ml ln pe pu pc kr km ku kc ∧ own_Fac Z h a0 rb ml ln pe pu pc kr km kl ke ku kc (3 : Int32) (0 : Int32) (0 : Int64) [.null, .null, .null] [.null, .null, .null] [(.int (0 : Int32)), (.int (0 : Int32)), (.int (0 : Int32))] [(.int (0 : Int32)), (.int (0 : Int32)), (.int (0 : Int32))] [.null, .null, .null] [.null, .null, .null]
set_option maxRecDepth 65536 in
set_option maxHeartbeats 40000000 in
theorem rm1 (l : Launch) (Z : State) (aa : Array Value) (hw : ∀ d ∈ tables_1, d.before aa Z = true) (ws : List Jvm.Cond) (a0 : Addr) (u_unknownCount : Value) (u_determined : Value) (u_reducedBy : Value) (u_multipliers : Value) (u_lengths : Value) (u_pivotEquation : Value) (u_pivotUnknowns : Value) (u_pivotCoefficients : Value) (h0 : Heap) (n0 : Nat) (Z0 : n0 ≤ h0.size) (gn : n0 ≤ a0) (E0 : Exa Z h0 a0 "com/example/sondage/sondage/inference/Factorization") (F_unknownCount : Fld Z h0 a0 "com/example/sondage/sondage/inference/Factorization" "unknownCount" "I" u_unknownCount) (F_determined : Fld Z h0 a0 "com/example/sondage/sondage/inference/Factorization" "determined" "[Z" u_determined) (F_reducedBy : Fld Z h0 a0 "com/example/sondage/sondage/inference/Factorization" "reducedBy" "[[I" u_reducedBy) (F_multipliers : Fld Z h0 a0 "com/example/sondage/sondage/inference/Factorization" "multipliers" "[[D" u_multipliers) (F_lengths : Fld Z h0 a0 "com/example/sondage/sondage/inference/Factorization" "lengths" "[I" u_lengths) (F_pivotEquation : Fld Z h0 a0 "com/example/sondage/sondage/inference/Factorization" "pivotEquation" "[I" u_pivotEquation) (F_pivotUnknowns : Fld Z h0 a0 "com/example/sondage/sondage/inference/Factorization" "pivotUnknowns" "[[I" u_pivotUnknowns) (F_pivotCoefficients : Fld Z h0 a0 "com/example/sondage/sondage/inference/Factorization" "pivotCoefficients" "[[D" u_pivotCoefficients) (F_pivotCount : Fld Z h0 a0 "com/example/sondage/sondage/inference/Factorization" "pivotCount" "I" (.int (0 : Int32))) (F_reductions : Fld Z h0 a0 "com/example/sondage/sondage/inference/Factorization" "reductions" "J" (.long (0 : Int64))) :
    MetFree l (⟨"com/example/sondage/sondage/inference/Factorization", "<init>", "(II)V"⟩ : MethodName) (head1 (Jvm.Cond.code (⟨"com/example/sondage/sondage/inference/Factorization", "<init>", "(II)V"⟩ : MethodName) prog_18_method_1_code 4 none :: ws) ({ frames := 1, cells := 7, slots := 21, locals := 13 } : Room)) (fun a U => a = #[(.ref a0), (.int (3 : Int32)), (.int (3 : Int32))] ∧ Z.Warmed39 U.vm ∧ U.heap = h0) (fun _ _ _ _ _ => True) (fun _ U o U' => ∃ v L, o = .returned v ∧ Q1 Z a0 u_unknownCount u_determined u_reducedBy u_multipliers u_lengths u_pivotEquation u_pivotUnknowns u_pivotCoefficients h0 n0 v U'.heap L ∧ FrameEnd U o U' L ({ frames := 1, cells := 7, slots := 21, locals := 13 } : Room).cells ({ frames := 1, cells := 7, slots := 21, locals := 13 } : Room).slots) := by
  refine MetFree.of_bodySF (plainFor_of_name pn_com_example_sondage_sondage_inference_Factorization) hisR ?_
  intro p e s m args below meth c s₁ Bd hml0 hP hK
  obtain ⟨rfl, hZ, hh⟩ := hP
  have hx := Bd.exec
  have hby := Bd.bytes
  have hml : c.maxLocals = 4 := hml0
  have hown : s.vm.findClass "com/example/sondage/sondage/inference/Factorization" = some m.cls := findClass_of_methodNamed Bd.named
  have hnm := (name_of_methodNamed Bd.named Bd.method).1
  have X0 : Stand p l e ({ frames := 1, cells := 7, slots := 21, locals := 13 } : Room) s m #[(.ref a0), (.int (3 : Int32)), (.int (3 : Int32))] below meth c s₁ [] 0 0 := Stand.of_body Bd
  have e0 : s₁.heap = h0 := by rw [← hh, Bd.state]; rfl
  have N0 := Fr.nil n0
  obtain ⟨G0, hG0⟩ : ∃ G, G = s₁.setTop (entryFrame m #[(.ref a0), (.int (3 : Int32)), (.int (3 : Int32))] 4) := ⟨_, rfl⟩
  have K0 : own_K p e below G0 s₁ (mkF m 0 #[.val (.ref a0), .val (.int (3 : Int32)), .val (.int (3 : Int32)), .unset] []) := fun t k => by rw [hG0]; exact castTop (ef_rm1 m a0) k
  have K1 : own_K p e below G0 s₁ (mkF m 1 #[.val (.ref a0), .val (.int (3 : Int32)), .val (.int (3 : Int32)), .unset] [(.ref a0)]) := by
    intro t kt
    refine K0 t ?_
    refine XS.aloadN X0.here hx rfl (hb hby d1_0) rfl rfl ?_
    show own_S p e below s₁ (mkF m 1 _ [(.ref a0)]) _
    exact kt
  obtain ⟨T2, X2, e2, st2⟩ := initO X0 hx hZ hown (hw _ (List.mem_of_getElem? (i := 11) rfl)) (hw _ (List.mem_of_getElem? (i := 12) rfl)) (hw _ (List.mem_of_getElem? (i := 13) rfl)) e0 (g := (mkF m 1 #[.val (.ref a0), .val (.int (3 : Int32)), .val (.int (3 : Int32)), .unset] [(.ref a0)])) rfl (by rw [hml]; rfl) rfl (hb hby d1_1) (by decide) (W := 0) (by show 2 * 0 + _ ≤ _; exact Nat.le_of_eq rfl) (by decide)
  have K2 : own_K p e below G0 T2 (mkF m 4 #[.val (.ref a0), .val (.int (3 : Int32)), .val (.int (3 : Int32)), .unset] []) := fun t kt => K1 t (st2 _ kt)
  have K3 : own_K p e below G0 T2 (mkF m 6 #[.val (.ref a0), .val (.int (3 : Int32)), .val (.int (3 : Int32)), .unset] [(.int (3 : Int32)), (.ref a0)]) := by
    intro t kt
    refine K2 t ?_
    refine XS.aloadN X2.here hx rfl (hb hby d1_4) rfl rfl ?_
    show own_S p e below T2 (mkF m 5 _ [(.ref a0)]) _
    refine XS.iloadN X2.here hx rfl (hb hby d1_5) rfl ?_
    show own_S p e below T2 (mkF m 6 _ [(.int (3 : Int32)), (.ref a0)]) _
    exact kt
  obtain ⟨T4, h4, X4, e4, W4, st4⟩ := putF X2 hx hZ hown (host := "") (Or.inl (hw _ (List.mem_of_getElem? (i := 14) rfl))) Via.refl e2 F_unknownCount E0 (Or.inr ⟨(hw _ (List.mem_of_getElem? (i := 15) rfl)), rfl, hnm⟩) (hw _ (List.mem_of_getElem? (i := 6) rfl)) (ty := .int) (by decide) rfl rfl (g := (mkF m 6 #[.val (.ref a0), .val (.int (3 : Int32)), .val (.int (3 : Int32)), .unset] [(.int (3 : Int32)), (.ref a0)])) rfl rfl (hb hby d1_6)
  have K4 : own_K p e below G0 T4 (mkF m 9 #[.val (.ref a0), .val (.int (3 : Int32)), .val (.int (3 : Int32)), .unset] []) := fun t kt => K3 t (st4 _ kt)
  have Fw4 := (F_unknownCount).same W4
  have N4 := Fr.snoc X4 N0 gn
  have Z4 : n0 ≤ h4.size := Nat.le_trans Z0 (Keep.of_wr W4).1
  have K5 : own_K p e below G0 T4 (mkF m 11 #[.val (.ref a0), .val (.int (3 : Int32)), .val (.int (3 : Int32)), .unset] [(.int (3 : Int32)), (.ref a0)]) := by
    intro t kt
    refine K4 t ?_
    refine XS.aloadN X4.here hx rfl (hb hby d1_9) rfl rfl ?_
    show own_S p e below T4 (mkF m 10 _ [(.ref a0)]) _
    refine XS.iloadN X4.here hx rfl (hb hby d1_10) rfl ?_
    show own_S p e below T4 (mkF m 11 _ [(.int (3 : Int32)), (.ref a0)]) _
    exact kt
  have f6 := (E0.wr W4)
  obtain ⟨T7, h7, k7, X7, e7, E7, A7, st7⟩ := newP X4 hx hZ (hw _ (List.mem_of_getElem? (i := 16) rfl)) e4 (g := (mkF m 11 #[.val (.ref a0), .val (.int (3 : Int32)), .val (.int (3 : Int32)), .unset] [(.int (3 : Int32)), (.ref a0)])) rfl (hb hby d1_11) rfl (by decide) (cap := 3) (by decide) (by decide) (by decide) (by decide)
  obtain ⟨b7, g7⟩ : ∃ z, z = h4.size := ⟨_, rfl⟩
  rw [← g7] at A7 st7
  have V7 := Arv.new A7 (by decide)
  have gn7 : n0 ≤ b7 := Nat.le_trans Z4 (Nat.le_of_eq g7.symm)
  have Z7 : n0 ≤ h7.size := Nat.le_trans Z4 E7.1
  have K7 : own_K p e below G0 T7 (mkF m 13 #[.val (.ref a0), .val (.int (3 : Int32)), .val (.int (3 : Int32)), .unset] [(.ref b7), (.ref a0)]) := fun t kt => K5 t (st7 _ kt)
  have ne_a0_b7 : a0 ≠ b7 := Nat.ne_of_lt (Nat.lt_of_lt_of_le (f6).lt (Nat.le_of_eq g7.symm))
  have VL7 : Arv Z h7 b7 k7 .boolean (3 : Int32) [(.int (0 : Int32)), (.int (0 : Int32)), (.int (0 : Int32))] (.int (0 : Int32)) := V7.pad (pad_rep [] (.int (0 : Int32)) 3)
  have f8 := ((F_determined.other W4 (Or.inr (slot_ne (Or.inr (hw _ (List.mem_of_getElem? (i := 18) rfl))) (Or.inr (hw _ (List.mem_of_getElem? (i := 15) rfl))) (by decide) (t := (.array .boolean)) (t' := .int) (by decide) (by decide)))).ext E7)
  have f9 := (f6.ext E7)
  obtain ⟨T10, h10, X10, e10, W10, st10⟩ := putF X7 hx hZ hown (host := "") (Or.inl (hw _ (List.mem_of_getElem? (i := 17) rfl))) Via.refl e7 f8 f9 (Or.inr ⟨(hw _ (List.mem_of_getElem? (i := 18) rfl)), rfl, hnm⟩) (hw _ (List.mem_of_getElem? (i := 6) rfl)) (ty := (.array .boolean)) (by decide) rfl rfl (g := (mkF m 13 #[.val (.ref a0), .val (.int (3 : Int32)), .val (.int (3 : Int32)), .unset] [(.ref b7), (.ref a0)])) rfl rfl (hb hby d1_13)
  have K10 : own_K p e below G0 T10 (mkF m 16 #[.val (.ref a0), .val (.int (3 : Int32)), .val (.int (3 : Int32)), .unset] []) := fun t kt => K7 t (st10 _ kt)
  have Fw10 := (f8).same W10
  have N10 := Fr.snoc X10 N4 gn
  have Z10 : n0 ≤ h10.size := Nat.le_trans Z7 (Keep.of_wr W10).1
  have K11 : own_K p e below G0 T10 (mkF m 18 #[.val (.ref a0), .val (.int (3 : Int32)), .val (.int (3 : Int32)), .unset] [(.int (3 : Int32)), (.ref a0)]) := by
    intro t kt
    refine K10 t ?_
    refine XS.aloadN X10.here hx rfl (hb hby d1_16) rfl rfl ?_
    show own_S p e below T10 (mkF m 17 _ [(.ref a0)]) _
    refine XS.iloadN X10.here hx rfl (hb hby d1_17) rfl ?_
    show own_S p e below T10 (mkF m 18 _ [(.int (3 : Int32)), (.ref a0)]) _
    exact kt
  have f12 := (f9.wr W10)
  have f13 := (VL7.other W10 (Ne.symm ne_a0_b7))
  obtain ⟨T14, h14, k14, X14, e14, E14, A14, EA14, O14, st14⟩ := newRA X10 hx hZ hown (C := "[I") (ty := .int) (by decide) (hw _ (List.mem_of_getElem? (i := 19) rfl)) (hw _ (List.mem_of_getElem? (i := 1) rfl)) e10 (g := (mkF m 18 #[.val (.ref a0), .val (.int (3 : Int32)), .val (.int (3 : Int32)), .unset] [(.int (3 : Int32)), (.ref a0)])) rfl (hb hby d1_18) rfl (by decide) (cap := 3) (by decide) (by decide) (by decide) (by decide) (ad := "[[I") (by decide)
  obtain ⟨b14, g14⟩ : ∃ z, z = h10.size := ⟨_, rfl⟩
  rw [← g14] at A14 EA14 st14
  have V14 := Arv.new A14 (by decide)
  have gn14 : n0 ≤ b14 := Nat.le_trans Z10 (Nat.le_of_eq g14.symm)
  have Z14 : n0 ≤ h14.size := Nat.le_trans Z10 E14.1
  have K14 : own_K p e below G0 T14 (mkF m 21 #[.val (.ref a0), .val (.int (3 : Int32)), .val (.int (3 : Int32)), .unset] [(.ref b14), (.ref a0)]) := fun t kt => K11 t (st14 _ kt)
  have ne_a0_b14 : a0 ≠ b14 := Nat.ne_of_lt (Nat.lt_of_lt_of_le (f12).lt (Nat.le_of_eq g14.symm))
  have ne_b7_b14 : b7 ≠ b14 := Nat.ne_of_lt (Nat.lt_of_lt_of_le (f13).lt (Nat.le_of_eq g14.symm))
  have VL14 : Arv Z h14 b14 k14 (.array .int) (3 : Int32) [.null, .null, .null] .null := V14.pad (pad_rep [] .null 3)
  have f15 := ((((F_reducedBy.other W4 (Or.inr (slot_ne (Or.inr (hw _ (List.mem_of_getElem? (i := 21) rfl))) (Or.inr (hw _ (List.mem_of_getElem? (i := 15) rfl))) (by decide) (t := (.array (.array .int))) (t' := .int) (by decide) (by decide)))).ext E7).other W10 (Or.inr (slot_ne (Or.inr (hw _ (List.mem_of_getElem? (i := 21) rfl))) (Or.inr (hw _ (List.mem_of_getElem? (i := 18) rfl))) (by decide) (t := (.array (.array .int))) (t' := (.array .boolean)) (by decide) (by decide)))).ext E14)
  have f16 := (f12.ext E14)
  obtain ⟨T17, h17, X17, e17, W17, st17⟩ := putF X14 hx hZ hown (host := "") (Or.inl (hw _ (List.mem_of_getElem? (i := 20) rfl))) Via.refl e14 f15 f16 (Or.inr ⟨(hw _ (List.mem_of_getElem? (i := 21) rfl)), rfl, hnm⟩) (hw _ (List.mem_of_getElem? (i := 6) rfl)) (ty := (.array (.array .int))) (by decide) rfl rfl (g := (mkF m 21 #[.val (.ref a0), .val (.int (3 : Int32)), .val (.int (3 : Int32)), .unset] [(.ref b14), (.ref a0)])) rfl rfl (hb hby d1_21)
  have K17 : own_K p e below G0 T17 (mkF m 24 #[.val (.ref a0), .val (.int (3 : Int32)), .val (.int (3 : Int32)), .unset] []) := fun t kt => K14 t (st17 _ kt)
  have Fw17 := (f15).same W17
  have N17 := Fr.snoc X17 N10 gn
  have Z17 : n0 ≤ h17.size := Nat.le_trans Z14 (Keep.of_wr W17).1
  have K18 : own_K p e below G0 T17 (mkF m 26 #[.val (.ref a0), .val (.int (3 : Int32)), .val (.int (3 : Int32)), .unset] [(.int (3 : Int32)), (.ref a0)]) := by
    intro t kt
    refine K17 t ?_
    refine XS.aloadN X17.here hx rfl (hb hby d1_24) rfl rfl ?_
    show own_S p e below T17 (mkF m 25 _ [(.ref a0)]) _
    refine XS.iloadN X17.here hx rfl (hb hby d1_25) rfl ?_
    show own_S p e below T17 (mkF m 26 _ [(.int (3 : Int32)), (.ref a0)]) _
    exact kt
  have f19 := (f16.wr W17)
  have f20 := ((f13.ext E14).other W17 (Ne.symm ne_a0_b7))
  have f21 := (VL14.other W17 (Ne.symm ne_a0_b14))
  obtain ⟨T22, h22, k22, X22, e22, E22, A22, EA22, O22, st22⟩ := newRA X17 hx hZ hown (C := "[D") (ty := .double) (by decide) (hw _ (List.mem_of_getElem? (i := 22) rfl)) (hw _ (List.mem_of_getElem? (i := 23) rfl)) e17 (g := (mkF m 26 #[.val (.ref a0), .val (.int (3 : Int32)), .val (.int (3 : Int32)), .unset] [(.int (3 : Int32)), (.ref a0)])) rfl (hb hby d1_26) rfl (by decide) (cap := 3) (by decide) (by decide) (by decide) (by decide) (ad := "[[D") (by decide)
  obtain ⟨b22, g22⟩ : ∃ z, z = h17.size := ⟨_, rfl⟩
  rw [← g22] at A22 EA22 st22
  have V22 := Arv.new A22 (by decide)
  have gn22 : n0 ≤ b22 := Nat.le_trans Z17 (Nat.le_of_eq g22.symm)
  have Z22 : n0 ≤ h22.size := Nat.le_trans Z17 E22.1
  have K22 : own_K p e below G0 T22 (mkF m 29 #[.val (.ref a0), .val (.int (3 : Int32)), .val (.int (3 : Int32)), .unset] [(.ref b22), (.ref a0)]) := fun t kt => K18 t (st22 _ kt)
  have ne_a0_b22 : a0 ≠ b22 := Nat.ne_of_lt (Nat.lt_of_lt_of_le (f19).lt (Nat.le_of_eq g22.symm))
  have ne_b7_b22 : b7 ≠ b22 := Nat.ne_of_lt (Nat.lt_of_lt_of_le (f20).lt (Nat.le_of_eq g22.symm))
  have ne_b14_b22 : b14 ≠ b22 := Nat.ne_of_lt (Nat.lt_of_lt_of_le (f21).lt (Nat.le_of_eq g22.symm))
  have VL22 : Arv Z h22 b22 k22 (.array .double) (3 : Int32) [.null, .null, .null] .null := V22.pad (pad_rep [] .null 3)
  have f23 := ((((((F_multipliers.other W4 (Or.inr (slot_ne (Or.inr (hw _ (List.mem_of_getElem? (i := 25) rfl))) (Or.inr (hw _ (List.mem_of_getElem? (i := 15) rfl))) (by decide) (t := (.array (.array .double))) (t' := .int) (by decide) (by decide)))).ext E7).other W10 (Or.inr (slot_ne (Or.inr (hw _ (List.mem_of_getElem? (i := 25) rfl))) (Or.inr (hw _ (List.mem_of_getElem? (i := 18) rfl))) (by decide) (t := (.array (.array .double))) (t' := (.array .boolean)) (by decide) (by decide)))).ext E14).other W17 (Or.inr (slot_ne (Or.inr (hw _ (List.mem_of_getElem? (i := 25) rfl))) (Or.inr (hw _ (List.mem_of_getElem? (i := 21) rfl))) (by decide) (t := (.array (.array .double))) (t' := (.array (.array .int))) (by decide) (by decide)))).ext E22)
  have f24 := (f19.ext E22)
  obtain ⟨T25, h25, X25, e25, W25, st25⟩ := putF X22 hx hZ hown (host := "") (Or.inl (hw _ (List.mem_of_getElem? (i := 24) rfl))) Via.refl e22 f23 f24 (Or.inr ⟨(hw _ (List.mem_of_getElem? (i := 25) rfl)), rfl, hnm⟩) (hw _ (List.mem_of_getElem? (i := 6) rfl)) (ty := (.array (.array .double))) (by decide) rfl rfl (g := (mkF m 29 #[.val (.ref a0), .val (.int (3 : Int32)), .val (.int (3 : Int32)), .unset] [(.ref b22), (.ref a0)])) rfl rfl (hb hby d1_29)
  have K25 : own_K p e below G0 T25 (mkF m 32 #[.val (.ref a0), .val (.int (3 : Int32)), .val (.int (3 : Int32)), .unset] []) := fun t kt => K22 t (st25 _ kt)
  have Fw25 := (f23).same W25
  have N25 := Fr.snoc X25 N17 gn
  have Z25 : n0 ≤ h25.size := Nat.le_trans Z22 (Keep.of_wr W25).1
  have K26 : own_K p e below G0 T25 (mkF m 34 #[.val (.ref a0), .val (.int (3 : Int32)), .val (.int (3 : Int32)), .unset] [(.int (3 : Int32)), (.ref a0)]) := by
    intro t kt
    refine K25 t ?_
    refine XS.aloadN X25.here hx rfl (hb hby d1_32) rfl rfl ?_
    show own_S p e below T25 (mkF m 33 _ [(.ref a0)]) _
    refine XS.iloadN X25.here hx rfl (hb hby d1_33) rfl ?_
    show own_S p e below T25 (mkF m 34 _ [(.int (3 : Int32)), (.ref a0)]) _
    exact kt
  have f27 := (f24.wr W25)
  have f28 := ((f20.ext E22).other W25 (Ne.symm ne_a0_b7))
  have f29 := ((f21.ext E22).other W25 (Ne.symm ne_a0_b14))
  have f30 := (VL22.other W25 (Ne.symm ne_a0_b22))
  obtain ⟨T31, h31, k31, X31, e31, E31, A31, EA31, st31⟩ := newPE X25 hx hZ (hw _ (List.mem_of_getElem? (i := 2) rfl)) e25 (g := (mkF m 34 #[.val (.ref a0), .val (.int (3 : Int32)), .val (.int (3 : Int32)), .unset] [(.int (3 : Int32)), (.ref a0)])) rfl (hb hby d1_34) rfl (by decide) (cap := 3) (by decide) (by decide) (by decide) (by decide) (ad := "[I") (by decide)
  obtain ⟨b31, g31⟩ : ∃ z, z = h25.size := ⟨_, rfl⟩
  rw [← g31] at A31 EA31 st31
  have V31 := Arv.new A31 (by decide)
  have gn31 : n0 ≤ b31 := Nat.le_trans Z25 (Nat.le_of_eq g31.symm)
  have Z31 : n0 ≤ h31.size := Nat.le_trans Z25 E31.1
  have K31 : own_K p e below G0 T31 (mkF m 36 #[.val (.ref a0), .val (.int (3 : Int32)), .val (.int (3 : Int32)), .unset] [(.ref b31), (.ref a0)]) := fun t kt => K26 t (st31 _ kt)
  have ne_a0_b31 : a0 ≠ b31 := Nat.ne_of_lt (Nat.lt_of_lt_of_le (f27).lt (Nat.le_of_eq g31.symm))
  have ne_b7_b31 : b7 ≠ b31 := Nat.ne_of_lt (Nat.lt_of_lt_of_le (f28).lt (Nat.le_of_eq g31.symm))
  have ne_b14_b31 : b14 ≠ b31 := Nat.ne_of_lt (Nat.lt_of_lt_of_le (f29).lt (Nat.le_of_eq g31.symm))
  have ne_b22_b31 : b22 ≠ b31 := Nat.ne_of_lt (Nat.lt_of_lt_of_le (f30).lt (Nat.le_of_eq g31.symm))
  have VL31 : Arv Z h31 b31 k31 .int (3 : Int32) [(.int (0 : Int32)), (.int (0 : Int32)), (.int (0 : Int32))] (.int (0 : Int32)) := V31.pad (pad_rep [] (.int (0 : Int32)) 3)
  have f32 := ((((((((F_lengths.other W4 (Or.inr (slot_ne (Or.inr (hw _ (List.mem_of_getElem? (i := 27) rfl))) (Or.inr (hw _ (List.mem_of_getElem? (i := 15) rfl))) (by decide) (t := (.array .int)) (t' := .int) (by decide) (by decide)))).ext E7).other W10 (Or.inr (slot_ne (Or.inr (hw _ (List.mem_of_getElem? (i := 27) rfl))) (Or.inr (hw _ (List.mem_of_getElem? (i := 18) rfl))) (by decide) (t := (.array .int)) (t' := (.array .boolean)) (by decide) (by decide)))).ext E14).other W17 (Or.inr (slot_ne (Or.inr (hw _ (List.mem_of_getElem? (i := 27) rfl))) (Or.inr (hw _ (List.mem_of_getElem? (i := 21) rfl))) (by decide) (t := (.array .int)) (t' := (.array (.array .int))) (by decide) (by decide)))).ext E22).other W25 (Or.inr (slot_ne (Or.inr (hw _ (List.mem_of_getElem? (i := 27) rfl))) (Or.inr (hw _ (List.mem_of_getElem? (i := 25) rfl))) (by decide) (t := (.array .int)) (t' := (.array (.array .double))) (by decide) (by decide)))).ext E31)
  have f33 := (f27.ext E31)
  obtain ⟨T34, h34, X34, e34, W34, st34⟩ := putF X31 hx hZ hown (host := "") (Or.inl (hw _ (List.mem_of_getElem? (i := 26) rfl))) Via.refl e31 f32 f33 (Or.inr ⟨(hw _ (List.mem_of_getElem? (i := 27) rfl)), rfl, hnm⟩) (hw _ (List.mem_of_getElem? (i := 6) rfl)) (ty := (.array .int)) (by decide) rfl rfl (g := (mkF m 36 #[.val (.ref a0), .val (.int (3 : Int32)), .val (.int (3 : Int32)), .unset] [(.ref b31), (.ref a0)])) rfl rfl (hb hby d1_36)
  have K34 : own_K p e below G0 T34 (mkF m 39 #[.val (.ref a0), .val (.int (3 : Int32)), .val (.int (3 : Int32)), .unset] []) := fun t kt => K31 t (st34 _ kt)
  have Fw34 := (f32).same W34
  have N34 := Fr.snoc X34 N25 gn
  have Z34 : n0 ≤ h34.size := Nat.le_trans Z31 (Keep.of_wr W34).1
  have K35 : own_K p e below G0 T34 (mkF m 41 #[.val (.ref a0), .val (.int (3 : Int32)), .val (.int (3 : Int32)), .unset] [(.int (3 : Int32)), (.int (3 : Int32))]) := by
    intro t kt
    refine K34 t ?_
    refine XS.iloadN X34.here hx rfl (hb hby d1_39) rfl ?_
    show own_S p e below T34 (mkF m 40 _ [(.int (3 : Int32))]) _
    refine XS.iloadN X34.here hx rfl (hb hby d1_40) rfl ?_
    show own_S p e below T34 (mkF m 41 _ [(.int (3 : Int32)), (.int (3 : Int32))]) _
    exact kt
  obtain ⟨v36, _, ⟨T36, L36, k36, n36⟩, -, X36, ⟨Lc36, hQ36, l36, y36, z36⟩, st36⟩ := Jvm.LawKit.callS X34 hx (y := (⟨"java/lang/Math", "min", "(II)I"⟩ : MethodName)) hown (mvT hZ (hw _ (List.mem_of_getElem? (i := 28) rfl))) (mvT hZ (hw _ (List.mem_of_getElem? (i := 29) rfl))) (mvT hZ (hw _ (List.mem_of_getElem? (i := 30) rfl))) (mvT hZ (hw _ (List.mem_of_getElem? (i := 31) rfl))) (by decide) (backOf (W := 0) (rm3 l Z aa hw [] ((3 : Int32)) ((3 : Int32))  h34 n0 Z34 (by decide)) hZ (hw _ (List.mem_of_getElem? (i := 31) rfl)) (hw _ (List.mem_of_getElem? (i := 30) rfl)) (by decide) (by decide)) (g := (mkF m 41 #[.val (.ref a0), .val (.int (3 : Int32)), .val (.int (3 : Int32)), .unset] [(.int (3 : Int32)), (.int (3 : Int32))])) rfl (by rw [hml]; rfl) (argsL := [(.int (3 : Int32)), (.int (3 : Int32))]) (rest := []) (lenOf pd_PIIQI rfl) rfl (by show 2 * 0 + _ ≤ _; exact Nat.le_of_eq rfl) (hb hby d1_41) (fun _ _ => ⟨rfl, e34, (by decide : 4 + 0 ≤ _), (by decide : 12 + 0 ≤ _)⟩)
  dsimp only [Pt.U, Pt.locs, Pt.cells, Pt.slots] at X36 l36 y36 z36 st36 hQ36
  subst l36 y36 z36
  obtain ⟨rfl, N36q, e36⟩ := hQ36
  have N36 := Fr.app N34 N36q
  have K36 : own_K p e below G0 T36 (mkF m 44 #[.val (.ref a0), .val (.int (3 : Int32)), .val (.int (3 : Int32)), .unset] [(.int (3 : Int32))]) := fun t kt => K35 t (st36 _ kt)
  have K37 : own_K p e below G0 T36 (mkF m 47 #[.val (.ref a0), .val (.int (3 : Int32)), .val (.int (3 : Int32)), .val (.int (3 : Int32))] [(.int (3 : Int32)), (.ref a0)]) := by
    intro t kt
    refine K36 t ?_
    refine XS.istoreN X36.here hx rfl (hb hby d1_44) rfl (l' := #[.val (.ref a0), .val (.int (3 : Int32)), .val (.int (3 : Int32)), .val (.int (3 : Int32))]) rfl ?_
    show own_S p e below T36 (mkF m 45 _ []) _
    refine XS.aloadN X36.here hx rfl (hb hby d1_45) rfl rfl ?_
    show own_S p e below T36 (mkF m 46 _ [(.ref a0)]) _
    refine XS.iloadN X36.here hx rfl (hb hby d1_46) rfl ?_
    show own_S p e below T36 (mkF m 47 _ [(.int (3 : Int32)), (.ref a0)]) _
    exact kt
  have f38 := (f33.wr W34)
  have f39 := ((f28.ext E31).other W34 (Ne.symm ne_a0_b7))
  have f40 := ((f29.ext E31).other W34 (Ne.symm ne_a0_b14))
  have f41 := ((f30.ext E31).other W34 (Ne.symm ne_a0_b22))
  have f42 := (VL31.other W34 (Ne.symm ne_a0_b31))
  obtain ⟨T43, h43, k43, X43, e43, E43, A43, EA43, st43⟩ := newPE X36 hx hZ (hw _ (List.mem_of_getElem? (i := 2) rfl)) e36 (g := (mkF m 47 #[.val (.ref a0), .val (.int (3 : Int32)), .val (.int (3 : Int32)), .val (.int (3 : Int32))] [(.int (3 : Int32)), (.ref a0)])) rfl (hb hby d1_47) rfl (by decide) (cap := 3) (by decide) (by decide) (by decide) (by decide) (ad := "[I") (by decide)
  obtain ⟨b43, g43⟩ : ∃ z, z = h34.size := ⟨_, rfl⟩
  rw [← g43] at A43 EA43 st43
  have V43 := Arv.new A43 (by decide)
  have gn43 : n0 ≤ b43 := Nat.le_trans Z34 (Nat.le_of_eq g43.symm)
  have Z43 : n0 ≤ h43.size := Nat.le_trans Z34 E43.1
  have K43 : own_K p e below G0 T43 (mkF m 49 #[.val (.ref a0), .val (.int (3 : Int32)), .val (.int (3 : Int32)), .val (.int (3 : Int32))] [(.ref b43), (.ref a0)]) := fun t kt => K37 t (st43 _ kt)
  have ne_a0_b43 : a0 ≠ b43 := Nat.ne_of_lt (Nat.lt_of_lt_of_le (f38).lt (Nat.le_of_eq g43.symm))
  have ne_b7_b43 : b7 ≠ b43 := Nat.ne_of_lt (Nat.lt_of_lt_of_le (f39).lt (Nat.le_of_eq g43.symm))
  have ne_b14_b43 : b14 ≠ b43 := Nat.ne_of_lt (Nat.lt_of_lt_of_le (f40).lt (Nat.le_of_eq g43.symm))
  have ne_b22_b43 : b22 ≠ b43 := Nat.ne_of_lt (Nat.lt_of_lt_of_le (f41).lt (Nat.le_of_eq g43.symm))
  have ne_b31_b43 : b31 ≠ b43 := Nat.ne_of_lt (Nat.lt_of_lt_of_le (f42).lt (Nat.le_of_eq g43.symm))
  have VL43 : Arv Z h43 b43 k43 .int (3 : Int32) [(.int (0 : Int32)), (.int (0 : Int32)), (.int (0 : Int32))] (.int (0 : Int32)) := V43.pad (pad_rep [] (.int (0 : Int32)) 3)
  have f44 := ((((((((((F_pivotEquation.other W4 (Or.inr (slot_ne (Or.inr (hw _ (List.mem_of_getElem? (i := 33) rfl))) (Or.inr (hw _ (List.mem_of_getElem? (i := 15) rfl))) (by decide) (t := (.array .int)) (t' := .int) (by decide) (by decide)))).ext E7).other W10 (Or.inr (slot_ne (Or.inr (hw _ (List.mem_of_getElem? (i := 33) rfl))) (Or.inr (hw _ (List.mem_of_getElem? (i := 18) rfl))) (by decide) (t := (.array .int)) (t' := (.array .boolean)) (by decide) (by decide)))).ext E14).other W17 (Or.inr (slot_ne (Or.inr (hw _ (List.mem_of_getElem? (i := 33) rfl))) (Or.inr (hw _ (List.mem_of_getElem? (i := 21) rfl))) (by decide) (t := (.array .int)) (t' := (.array (.array .int))) (by decide) (by decide)))).ext E22).other W25 (Or.inr (slot_ne (Or.inr (hw _ (List.mem_of_getElem? (i := 33) rfl))) (Or.inr (hw _ (List.mem_of_getElem? (i := 25) rfl))) (by decide) (t := (.array .int)) (t' := (.array (.array .double))) (by decide) (by decide)))).ext E31).other W34 (Or.inr (slot_ne (Or.inr (hw _ (List.mem_of_getElem? (i := 33) rfl))) (Or.inr (hw _ (List.mem_of_getElem? (i := 27) rfl))) (by decide) (t := (.array .int)) (t' := (.array .int)) (by decide) (by decide)))).ext E43)
  have f45 := (f38.ext E43)
  obtain ⟨T46, h46, X46, e46, W46, st46⟩ := putF X43 hx hZ hown (host := "") (Or.inl (hw _ (List.mem_of_getElem? (i := 32) rfl))) Via.refl e43 f44 f45 (Or.inr ⟨(hw _ (List.mem_of_getElem? (i := 33) rfl)), rfl, hnm⟩) (hw _ (List.mem_of_getElem? (i := 6) rfl)) (ty := (.array .int)) (by decide) rfl rfl (g := (mkF m 49 #[.val (.ref a0), .val (.int (3 : Int32)), .val (.int (3 : Int32)), .val (.int (3 : Int32))] [(.ref b43), (.ref a0)])) rfl rfl (hb hby d1_49)
  have K46 : own_K p e below G0 T46 (mkF m 52 #[.val (.ref a0), .val (.int (3 : Int32)), .val (.int (3 : Int32)), .val (.int (3 : Int32))] []) := fun t kt => K43 t (st46 _ kt)
  have Fw46 := (f44).same W46
  have N46 := Fr.snoc X46 N36 gn
  have Z46 : n0 ≤ h46.size := Nat.le_trans Z43 (Keep.of_wr W46).1
  have K47 : own_K p e below G0 T46 (mkF m 54 #[.val (.ref a0), .val (.int (3 : Int32)), .val (.int (3 : Int32)), .val (.int (3 : Int32))] [(.int (3 : Int32)), (.ref a0)]) := by
    intro t kt
    refine K46 t ?_
    refine XS.aloadN X46.here hx rfl (hb hby d1_52) rfl rfl ?_
    show own_S p e below T46 (mkF m 53 _ [(.ref a0)]) _
    refine XS.iloadN X46.here hx rfl (hb hby d1_53) rfl ?_
    show own_S p e below T46 (mkF m 54 _ [(.int (3 : Int32)), (.ref a0)]) _
    exact kt
  have f48 := (f45.wr W46)
  have f49 := ((f39.ext E43).other W46 (Ne.symm ne_a0_b7))
  have f50 := ((f40.ext E43).other W46 (Ne.symm ne_a0_b14))
  have f51 := ((f41.ext E43).other W46 (Ne.symm ne_a0_b22))
  have f52 := ((f42.ext E43).other W46 (Ne.symm ne_a0_b31))
  have f53 := (VL43.other W46 (Ne.symm ne_a0_b43))
  obtain ⟨T54, h54, k54, X54, e54, E54, A54, EA54, O54, st54⟩ := newRA X46 hx hZ hown (C := "[I") (ty := .int) (by decide) (hw _ (List.mem_of_getElem? (i := 19) rfl)) (hw _ (List.mem_of_getElem? (i := 1) rfl)) e46 (g := (mkF m 54 #[.val (.ref a0), .val (.int (3 : Int32)), .val (.int (3 : Int32)), .val (.int (3 : Int32))] [(.int (3 : Int32)), (.ref a0)])) rfl (hb hby d1_54) rfl (by decide) (cap := 3) (by decide) (by decide) (by decide) (by decide) (ad := "[[I") (by decide)
  obtain ⟨b54, g54⟩ : ∃ z, z = h46.size := ⟨_, rfl⟩
  rw [← g54] at A54 EA54 st54
  have V54 := Arv.new A54 (by decide)
  have gn54 : n0 ≤ b54 := Nat.le_trans Z46 (Nat.le_of_eq g54.symm)
  have Z54 : n0 ≤ h54.size := Nat.le_trans Z46 E54.1
  have K54 : own_K p e below G0 T54 (mkF m 57 #[.val (.ref a0), .val (.int (3 : Int32)), .val (.int (3 : Int32)), .val (.int (3 : Int32))] [(.ref b54), (.ref a0)]) := fun t kt => K47 t (st54 _ kt)
  have ne_a0_b54 : a0 ≠ b54 := Nat.ne_of_lt (Nat.lt_of_lt_of_le (f48).lt (Nat.le_of_eq g54.symm))
  have ne_b7_b54 : b7 ≠ b54 := Nat.ne_of_lt (Nat.lt_of_lt_of_le (f49).lt (Nat.le_of_eq g54.symm))
  have ne_b14_b54 : b14 ≠ b54 := Nat.ne_of_lt (Nat.lt_of_lt_of_le (f50).lt (Nat.le_of_eq g54.symm))
  have ne_b22_b54 : b22 ≠ b54 := Nat.ne_of_lt (Nat.lt_of_lt_of_le (f51).lt (Nat.le_of_eq g54.symm))
  have ne_b31_b54 : b31 ≠ b54 := Nat.ne_of_lt (Nat.lt_of_lt_of_le (f52).lt (Nat.le_of_eq g54.symm))
  have ne_b43_b54 : b43 ≠ b54 := Nat.ne_of_lt (Nat.lt_of_lt_of_le (f53).lt (Nat.le_of_eq g54.symm))
  have VL54 : Arv Z h54 b54 k54 (.array .int) (3 : Int32) [.null, .null, .null] .null := V54.pad (pad_rep [] .null 3)
  have f55 := ((((((((((((F_pivotUnknowns.other W4 (Or.inr (slot_ne (Or.inr (hw _ (List.mem_of_getElem? (i := 35) rfl))) (Or.inr (hw _ (List.mem_of_getElem? (i := 15) rfl))) (by decide) (t := (.array (.array .int))) (t' := .int) (by decide) (by decide)))).ext E7).other W10 (Or.inr (slot_ne (Or.inr (hw _ (List.mem_of_getElem? (i := 35) rfl))) (Or.inr (hw _ (List.mem_of_getElem? (i := 18) rfl))) (by decide) (t := (.array (.array .int))) (t' := (.array .boolean)) (by decide) (by decide)))).ext E14).other W17 (Or.inr (slot_ne (Or.inr (hw _ (List.mem_of_getElem? (i := 35) rfl))) (Or.inr (hw _ (List.mem_of_getElem? (i := 21) rfl))) (by decide) (t := (.array (.array .int))) (t' := (.array (.array .int))) (by decide) (by decide)))).ext E22).other W25 (Or.inr (slot_ne (Or.inr (hw _ (List.mem_of_getElem? (i := 35) rfl))) (Or.inr (hw _ (List.mem_of_getElem? (i := 25) rfl))) (by decide) (t := (.array (.array .int))) (t' := (.array (.array .double))) (by decide) (by decide)))).ext E31).other W34 (Or.inr (slot_ne (Or.inr (hw _ (List.mem_of_getElem? (i := 35) rfl))) (Or.inr (hw _ (List.mem_of_getElem? (i := 27) rfl))) (by decide) (t := (.array (.array .int))) (t' := (.array .int)) (by decide) (by decide)))).ext E43).other W46 (Or.inr (slot_ne (Or.inr (hw _ (List.mem_of_getElem? (i := 35) rfl))) (Or.inr (hw _ (List.mem_of_getElem? (i := 33) rfl))) (by decide) (t := (.array (.array .int))) (t' := (.array .int)) (by decide) (by decide)))).ext E54)
  have f56 := (f48.ext E54)
  obtain ⟨T57, h57, X57, e57, W57, st57⟩ := putF X54 hx hZ hown (host := "") (Or.inl (hw _ (List.mem_of_getElem? (i := 34) rfl))) Via.refl e54 f55 f56 (Or.inr ⟨(hw _ (List.mem_of_getElem? (i := 35) rfl)), rfl, hnm⟩) (hw _ (List.mem_of_getElem? (i := 6) rfl)) (ty := (.array (.array .int))) (by decide) rfl rfl (g := (mkF m 57 #[.val (.ref a0), .val (.int (3 : Int32)), .val (.int (3 : Int32)), .val (.int (3 : Int32))] [(.ref b54), (.ref a0)])) rfl rfl (hb hby d1_57)
  have K57 : own_K p e below G0 T57 (mkF m 60 #[.val (.ref a0), .val (.int (3 : Int32)), .val (.int (3 : Int32)), .val (.int (3 : Int32))] []) := fun t kt => K54 t (st57 _ kt)
  have Fw57 := (f55).same W57
  have N57 := Fr.snoc X57 N46 gn
  have Z57 : n0 ≤ h57.size := Nat.le_trans Z54 (Keep.of_wr W57).1
  have K58 : own_K p e below G0 T57 (mkF m 62 #[.val (.ref a0), .val (.int (3 : Int32)), .val (.int (3 : Int32)), .val (.int (3 : Int32))] [(.int (3 : Int32)), (.ref a0)]) := by
    intro t kt
    refine K57 t ?_
    refine XS.aloadN X57.here hx rfl (hb hby d1_60) rfl rfl ?_
    show own_S p e below T57 (mkF m 61 _ [(.ref a0)]) _
    refine XS.iloadN X57.here hx rfl (hb hby d1_61) rfl ?_
    show own_S p e below T57 (mkF m 62 _ [(.int (3 : Int32)), (.ref a0)]) _
    exact kt
  have f59 := (f56.wr W57)
  have f60 := ((f49.ext E54).other W57 (Ne.symm ne_a0_b7))
  have f61 := ((f50.ext E54).other W57 (Ne.symm ne_a0_b14))
  have f62 := ((f51.ext E54).other W57 (Ne.symm ne_a0_b22))
  have f63 := ((f52.ext E54).other W57 (Ne.symm ne_a0_b31))
  have f64 := ((f53.ext E54).other W57 (Ne.symm ne_a0_b43))
  have f65 := (VL54.other W57 (Ne.symm ne_a0_b54))
  obtain ⟨T66, h66, k66, X66, e66, E66, A66, EA66, O66, st66⟩ := newRA X57 hx hZ hown (C := "[D") (ty := .double) (by decide) (hw _ (List.mem_of_getElem? (i := 22) rfl)) (hw _ (List.mem_of_getElem? (i := 23) rfl)) e57 (g := (mkF m 62 #[.val (.ref a0), .val (.int (3 : Int32)), .val (.int (3 : Int32)), .val (.int (3 : Int32))] [(.int (3 : Int32)), (.ref a0)])) rfl (hb hby d1_62) rfl (by decide) (cap := 3) (by decide) (by decide) (by decide) (by decide) (ad := "[[D") (by decide)
  obtain ⟨b66, g66⟩ : ∃ z, z = h57.size := ⟨_, rfl⟩
  rw [← g66] at A66 EA66 st66
  have V66 := Arv.new A66 (by decide)
  have gn66 : n0 ≤ b66 := Nat.le_trans Z57 (Nat.le_of_eq g66.symm)
  have Z66 : n0 ≤ h66.size := Nat.le_trans Z57 E66.1
  have K66 : own_K p e below G0 T66 (mkF m 65 #[.val (.ref a0), .val (.int (3 : Int32)), .val (.int (3 : Int32)), .val (.int (3 : Int32))] [(.ref b66), (.ref a0)]) := fun t kt => K58 t (st66 _ kt)
  have ne_a0_b66 : a0 ≠ b66 := Nat.ne_of_lt (Nat.lt_of_lt_of_le (f59).lt (Nat.le_of_eq g66.symm))
  have ne_b7_b66 : b7 ≠ b66 := Nat.ne_of_lt (Nat.lt_of_lt_of_le (f60).lt (Nat.le_of_eq g66.symm))
  have ne_b14_b66 : b14 ≠ b66 := Nat.ne_of_lt (Nat.lt_of_lt_of_le (f61).lt (Nat.le_of_eq g66.symm))
  have ne_b22_b66 : b22 ≠ b66 := Nat.ne_of_lt (Nat.lt_of_lt_of_le (f62).lt (Nat.le_of_eq g66.symm))
  have ne_b31_b66 : b31 ≠ b66 := Nat.ne_of_lt (Nat.lt_of_lt_of_le (f63).lt (Nat.le_of_eq g66.symm))
  have ne_b43_b66 : b43 ≠ b66 := Nat.ne_of_lt (Nat.lt_of_lt_of_le (f64).lt (Nat.le_of_eq g66.symm))
  have ne_b54_b66 : b54 ≠ b66 := Nat.ne_of_lt (Nat.lt_of_lt_of_le (f65).lt (Nat.le_of_eq g66.symm))
  have VL66 : Arv Z h66 b66 k66 (.array .double) (3 : Int32) [.null, .null, .null] .null := V66.pad (pad_rep [] .null 3)
  have f67 := ((((((((((((((F_pivotCoefficients.other W4 (Or.inr (slot_ne (Or.inr (hw _ (List.mem_of_getElem? (i := 37) rfl))) (Or.inr (hw _ (List.mem_of_getElem? (i := 15) rfl))) (by decide) (t := (.array (.array .double))) (t' := .int) (by decide) (by decide)))).ext E7).other W10 (Or.inr (slot_ne (Or.inr (hw _ (List.mem_of_getElem? (i := 37) rfl))) (Or.inr (hw _ (List.mem_of_getElem? (i := 18) rfl))) (by decide) (t := (.array (.array .double))) (t' := (.array .boolean)) (by decide) (by decide)))).ext E14).other W17 (Or.inr (slot_ne (Or.inr (hw _ (List.mem_of_getElem? (i := 37) rfl))) (Or.inr (hw _ (List.mem_of_getElem? (i := 21) rfl))) (by decide) (t := (.array (.array .double))) (t' := (.array (.array .int))) (by decide) (by decide)))).ext E22).other W25 (Or.inr (slot_ne (Or.inr (hw _ (List.mem_of_getElem? (i := 37) rfl))) (Or.inr (hw _ (List.mem_of_getElem? (i := 25) rfl))) (by decide) (t := (.array (.array .double))) (t' := (.array (.array .double))) (by decide) (by decide)))).ext E31).other W34 (Or.inr (slot_ne (Or.inr (hw _ (List.mem_of_getElem? (i := 37) rfl))) (Or.inr (hw _ (List.mem_of_getElem? (i := 27) rfl))) (by decide) (t := (.array (.array .double))) (t' := (.array .int)) (by decide) (by decide)))).ext E43).other W46 (Or.inr (slot_ne (Or.inr (hw _ (List.mem_of_getElem? (i := 37) rfl))) (Or.inr (hw _ (List.mem_of_getElem? (i := 33) rfl))) (by decide) (t := (.array (.array .double))) (t' := (.array .int)) (by decide) (by decide)))).ext E54).other W57 (Or.inr (slot_ne (Or.inr (hw _ (List.mem_of_getElem? (i := 37) rfl))) (Or.inr (hw _ (List.mem_of_getElem? (i := 35) rfl))) (by decide) (t := (.array (.array .double))) (t' := (.array (.array .int))) (by decide) (by decide)))).ext E66)
  have f68 := (f59.ext E66)
  obtain ⟨T69, h69, X69, e69, W69, st69⟩ := putF X66 hx hZ hown (host := "") (Or.inl (hw _ (List.mem_of_getElem? (i := 36) rfl))) Via.refl e66 f67 f68 (Or.inr ⟨(hw _ (List.mem_of_getElem? (i := 37) rfl)), rfl, hnm⟩) (hw _ (List.mem_of_getElem? (i := 6) rfl)) (ty := (.array (.array .double))) (by decide) rfl rfl (g := (mkF m 65 #[.val (.ref a0), .val (.int (3 : Int32)), .val (.int (3 : Int32)), .val (.int (3 : Int32))] [(.ref b66), (.ref a0)])) rfl rfl (hb hby d1_65)
  have K69 : own_K p e below G0 T69 (mkF m 68 #[.val (.ref a0), .val (.int (3 : Int32)), .val (.int (3 : Int32)), .val (.int (3 : Int32))] []) := fun t kt => K66 t (st69 _ kt)
  have Fw69 := (f67).same W69
  have N69 := Fr.snoc X69 N57 gn
  have Z69 : n0 ≤ h69.size := Nat.le_trans Z66 (Keep.of_wr W69).1
  have KQ70_0 := Keep.refl h0 [a0]
  have KQ70_1 := KQ70_0.wr W4 (Or.inl (List.mem_of_getElem? (i := 0) rfl))
  have sz70_7 := Nat.le_trans KQ70_1.1 (Nat.le_of_eq g7.symm)
  have KQ70_2 := KQ70_1.ext E7
  have KQ70_3 := KQ70_2.wr W10 (Or.inl (List.mem_of_getElem? (i := 0) rfl))
  have sz70_14 := Nat.le_trans KQ70_3.1 (Nat.le_of_eq g14.symm)
  have KQ70_4 := KQ70_3.ext E14
  have KQ70_5 := KQ70_4.wr W17 (Or.inl (List.mem_of_getElem? (i := 0) rfl))
  have sz70_22 := Nat.le_trans KQ70_5.1 (Nat.le_of_eq g22.symm)
  have KQ70_6 := KQ70_5.ext E22
  have KQ70_7 := KQ70_6.wr W25 (Or.inl (List.mem_of_getElem? (i := 0) rfl))
  have sz70_31 := Nat.le_trans KQ70_7.1 (Nat.le_of_eq g31.symm)
  have KQ70_8 := KQ70_7.ext E31
  have KQ70_9 := KQ70_8.wr W34 (Or.inl (List.mem_of_getElem? (i := 0) rfl))
  have sz70_43 := Nat.le_trans KQ70_9.1 (Nat.le_of_eq g43.symm)
  have KQ70_10 := KQ70_9.ext E43
  have KQ70_11 := KQ70_10.wr W46 (Or.inl (List.mem_of_getElem? (i := 0) rfl))
  have sz70_54 := Nat.le_trans KQ70_11.1 (Nat.le_of_eq g54.symm)
  have KQ70_12 := KQ70_11.ext E54
  have KQ70_13 := KQ70_12.wr W57 (Or.inl (List.mem_of_getElem? (i := 0) rfl))
  have sz70_66 := Nat.le_trans KQ70_13.1 (Nat.le_of_eq g66.symm)
  have KQ70_14 := KQ70_13.ext E66
  have KQ70_15 := KQ70_14.wr W69 (Or.inl (List.mem_of_getElem? (i := 0) rfl))
  have f71 := (f68.wr W69)
  have f72 := ((((((((((((((Fw4.ext E7).other W10 (Or.inr (slot_ne (Or.inr (hw _ (List.mem_of_getElem? (i := 15) rfl))) (Or.inr (hw _ (List.mem_of_getElem? (i := 18) rfl))) (by decide) (t := .int) (t' := (.array .boolean)) (by decide) (by decide)))).ext E14).other W17 (Or.inr (slot_ne (Or.inr (hw _ (List.mem_of_getElem? (i := 15) rfl))) (Or.inr (hw _ (List.mem_of_getElem? (i := 21) rfl))) (by decide) (t := .int) (t' := (.array (.array .int))) (by decide) (by decide)))).ext E22).other W25 (Or.inr (slot_ne (Or.inr (hw _ (List.mem_of_getElem? (i := 15) rfl))) (Or.inr (hw _ (List.mem_of_getElem? (i := 25) rfl))) (by decide) (t := .int) (t' := (.array (.array .double))) (by decide) (by decide)))).ext E31).other W34 (Or.inr (slot_ne (Or.inr (hw _ (List.mem_of_getElem? (i := 15) rfl))) (Or.inr (hw _ (List.mem_of_getElem? (i := 27) rfl))) (by decide) (t := .int) (t' := (.array .int)) (by decide) (by decide)))).ext E43).other W46 (Or.inr (slot_ne (Or.inr (hw _ (List.mem_of_getElem? (i := 15) rfl))) (Or.inr (hw _ (List.mem_of_getElem? (i := 33) rfl))) (by decide) (t := .int) (t' := (.array .int)) (by decide) (by decide)))).ext E54).other W57 (Or.inr (slot_ne (Or.inr (hw _ (List.mem_of_getElem? (i := 15) rfl))) (Or.inr (hw _ (List.mem_of_getElem? (i := 35) rfl))) (by decide) (t := .int) (t' := (.array (.array .int))) (by decide) (by decide)))).ext E66).other W69 (Or.inr (slot_ne (Or.inr (hw _ (List.mem_of_getElem? (i := 15) rfl))) (Or.inr (hw _ (List.mem_of_getElem? (i := 37) rfl))) (by decide) (t := .int) (t' := (.array (.array .double))) (by decide) (by decide))))
  have f73 := (((((((((((((((F_pivotCount.other W4 (Or.inr (slot_ne (Or.inl (hw _ (List.mem_of_getElem? (i := 44) rfl))) (Or.inr (hw _ (List.mem_of_getElem? (i := 15) rfl))) (by decide) (t := .int) (t' := .int) (by decide) (by decide)))).ext E7).other W10 (Or.inr (slot_ne (Or.inl (hw _ (List.mem_of_getElem? (i := 44) rfl))) (Or.inr (hw _ (List.mem_of_getElem? (i := 18) rfl))) (by decide) (t := .int) (t' := (.array .boolean)) (by decide) (by decide)))).ext E14).other W17 (Or.inr (slot_ne (Or.inl (hw _ (List.mem_of_getElem? (i := 44) rfl))) (Or.inr (hw _ (List.mem_of_getElem? (i := 21) rfl))) (by decide) (t := .int) (t' := (.array (.array .int))) (by decide) (by decide)))).ext E22).other W25 (Or.inr (slot_ne (Or.inl (hw _ (List.mem_of_getElem? (i := 44) rfl))) (Or.inr (hw _ (List.mem_of_getElem? (i := 25) rfl))) (by decide) (t := .int) (t' := (.array (.array .double))) (by decide) (by decide)))).ext E31).other W34 (Or.inr (slot_ne (Or.inl (hw _ (List.mem_of_getElem? (i := 44) rfl))) (Or.inr (hw _ (List.mem_of_getElem? (i := 27) rfl))) (by decide) (t := .int) (t' := (.array .int)) (by decide) (by decide)))).ext E43).other W46 (Or.inr (slot_ne (Or.inl (hw _ (List.mem_of_getElem? (i := 44) rfl))) (Or.inr (hw _ (List.mem_of_getElem? (i := 33) rfl))) (by decide) (t := .int) (t' := (.array .int)) (by decide) (by decide)))).ext E54).other W57 (Or.inr (slot_ne (Or.inl (hw _ (List.mem_of_getElem? (i := 44) rfl))) (Or.inr (hw _ (List.mem_of_getElem? (i := 35) rfl))) (by decide) (t := .int) (t' := (.array (.array .int))) (by decide) (by decide)))).ext E66).other W69 (Or.inr (slot_ne (Or.inl (hw _ (List.mem_of_getElem? (i := 44) rfl))) (Or.inr (hw _ (List.mem_of_getElem? (i := 37) rfl))) (by decide) (t := .int) (t' := (.array (.array .double))) (by decide) (by decide))))
  have f74 := (((((((((((((((F_reductions.other W4 (Or.inr (slot_ne (Or.inl (hw _ (List.mem_of_getElem? (i := 52) rfl))) (Or.inr (hw _ (List.mem_of_getElem? (i := 15) rfl))) (by decide) (t := .long) (t' := .int) (by decide) (by decide)))).ext E7).other W10 (Or.inr (slot_ne (Or.inl (hw _ (List.mem_of_getElem? (i := 52) rfl))) (Or.inr (hw _ (List.mem_of_getElem? (i := 18) rfl))) (by decide) (t := .long) (t' := (.array .boolean)) (by decide) (by decide)))).ext E14).other W17 (Or.inr (slot_ne (Or.inl (hw _ (List.mem_of_getElem? (i := 52) rfl))) (Or.inr (hw _ (List.mem_of_getElem? (i := 21) rfl))) (by decide) (t := .long) (t' := (.array (.array .int))) (by decide) (by decide)))).ext E22).other W25 (Or.inr (slot_ne (Or.inl (hw _ (List.mem_of_getElem? (i := 52) rfl))) (Or.inr (hw _ (List.mem_of_getElem? (i := 25) rfl))) (by decide) (t := .long) (t' := (.array (.array .double))) (by decide) (by decide)))).ext E31).other W34 (Or.inr (slot_ne (Or.inl (hw _ (List.mem_of_getElem? (i := 52) rfl))) (Or.inr (hw _ (List.mem_of_getElem? (i := 27) rfl))) (by decide) (t := .long) (t' := (.array .int)) (by decide) (by decide)))).ext E43).other W46 (Or.inr (slot_ne (Or.inl (hw _ (List.mem_of_getElem? (i := 52) rfl))) (Or.inr (hw _ (List.mem_of_getElem? (i := 33) rfl))) (by decide) (t := .long) (t' := (.array .int)) (by decide) (by decide)))).ext E54).other W57 (Or.inr (slot_ne (Or.inl (hw _ (List.mem_of_getElem? (i := 52) rfl))) (Or.inr (hw _ (List.mem_of_getElem? (i := 35) rfl))) (by decide) (t := .long) (t' := (.array (.array .int))) (by decide) (by decide)))).ext E66).other W69 (Or.inr (slot_ne (Or.inl (hw _ (List.mem_of_getElem? (i := 52) rfl))) (Or.inr (hw _ (List.mem_of_getElem? (i := 37) rfl))) (by decide) (t := .long) (t' := (.array (.array .double))) (by decide) (by decide))))
  have f75 := ((((((((((Fw17.ext E22).other W25 (Or.inr (slot_ne (Or.inr (hw _ (List.mem_of_getElem? (i := 21) rfl))) (Or.inr (hw _ (List.mem_of_getElem? (i := 25) rfl))) (by decide) (t := (.array (.array .int))) (t' := (.array (.array .double))) (by decide) (by decide)))).ext E31).other W34 (Or.inr (slot_ne (Or.inr (hw _ (List.mem_of_getElem? (i := 21) rfl))) (Or.inr (hw _ (List.mem_of_getElem? (i := 27) rfl))) (by decide) (t := (.array (.array .int))) (t' := (.array .int)) (by decide) (by decide)))).ext E43).other W46 (Or.inr (slot_ne (Or.inr (hw _ (List.mem_of_getElem? (i := 21) rfl))) (Or.inr (hw _ (List.mem_of_getElem? (i := 33) rfl))) (by decide) (t := (.array (.array .int))) (t' := (.array .int)) (by decide) (by decide)))).ext E54).other W57 (Or.inr (slot_ne (Or.inr (hw _ (List.mem_of_getElem? (i := 21) rfl))) (Or.inr (hw _ (List.mem_of_getElem? (i := 35) rfl))) (by decide) (t := (.array (.array .int))) (t' := (.array (.array .int))) (by decide) (by decide)))).ext E66).other W69 (Or.inr (slot_ne (Or.inr (hw _ (List.mem_of_getElem? (i := 21) rfl))) (Or.inr (hw _ (List.mem_of_getElem? (i := 37) rfl))) (by decide) (t := (.array (.array .int))) (t' := (.array (.array .double))) (by decide) (by decide))))
  have f76 := ((((((((Fw25.ext E31).other W34 (Or.inr (slot_ne (Or.inr (hw _ (List.mem_of_getElem? (i := 25) rfl))) (Or.inr (hw _ (List.mem_of_getElem? (i := 27) rfl))) (by decide) (t := (.array (.array .double))) (t' := (.array .int)) (by decide) (by decide)))).ext E43).other W46 (Or.inr (slot_ne (Or.inr (hw _ (List.mem_of_getElem? (i := 25) rfl))) (Or.inr (hw _ (List.mem_of_getElem? (i := 33) rfl))) (by decide) (t := (.array (.array .double))) (t' := (.array .int)) (by decide) (by decide)))).ext E54).other W57 (Or.inr (slot_ne (Or.inr (hw _ (List.mem_of_getElem? (i := 25) rfl))) (Or.inr (hw _ (List.mem_of_getElem? (i := 35) rfl))) (by decide) (t := (.array (.array .double))) (t' := (.array (.array .int))) (by decide) (by decide)))).ext E66).other W69 (Or.inr (slot_ne (Or.inr (hw _ (List.mem_of_getElem? (i := 25) rfl))) (Or.inr (hw _ (List.mem_of_getElem? (i := 37) rfl))) (by decide) (t := (.array (.array .double))) (t' := (.array (.array .double))) (by decide) (by decide))))
  have f77 := ((((((Fw34.ext E43).other W46 (Or.inr (slot_ne (Or.inr (hw _ (List.mem_of_getElem? (i := 27) rfl))) (Or.inr (hw _ (List.mem_of_getElem? (i := 33) rfl))) (by decide) (t := (.array .int)) (t' := (.array .int)) (by decide) (by decide)))).ext E54).other W57 (Or.inr (slot_ne (Or.inr (hw _ (List.mem_of_getElem? (i := 27) rfl))) (Or.inr (hw _ (List.mem_of_getElem? (i := 35) rfl))) (by decide) (t := (.array .int)) (t' := (.array (.array .int))) (by decide) (by decide)))).ext E66).other W69 (Or.inr (slot_ne (Or.inr (hw _ (List.mem_of_getElem? (i := 27) rfl))) (Or.inr (hw _ (List.mem_of_getElem? (i := 37) rfl))) (by decide) (t := (.array .int)) (t' := (.array (.array .double))) (by decide) (by decide))))
  have f78 := ((((Fw46.ext E54).other W57 (Or.inr (slot_ne (Or.inr (hw _ (List.mem_of_getElem? (i := 33) rfl))) (Or.inr (hw _ (List.mem_of_getElem? (i := 35) rfl))) (by decide) (t := (.array .int)) (t' := (.array (.array .int))) (by decide) (by decide)))).ext E66).other W69 (Or.inr (slot_ne (Or.inr (hw _ (List.mem_of_getElem? (i := 33) rfl))) (Or.inr (hw _ (List.mem_of_getElem? (i := 37) rfl))) (by decide) (t := (.array .int)) (t' := (.array (.array .double))) (by decide) (by decide))))
  have f79 := ((Fw57.ext E66).other W69 (Or.inr (slot_ne (Or.inr (hw _ (List.mem_of_getElem? (i := 35) rfl))) (Or.inr (hw _ (List.mem_of_getElem? (i := 37) rfl))) (by decide) (t := (.array (.array .int))) (t' := (.array (.array .double))) (by decide) (by decide))))
  have f80 := ((f61.ext E66).other W69 (Ne.symm ne_a0_b14))
  have f81 := ((f62.ext E66).other W69 (Ne.symm ne_a0_b22))
  have f82 := ((f63.ext E66).other W69 (Ne.symm ne_a0_b31))
  have f83 := ((f64.ext E66).other W69 (Ne.symm ne_a0_b43))
  have f84 := ((f65.ext E66).other W69 (Ne.symm ne_a0_b54))
  have f85 := (VL66.other W69 (Ne.symm ne_a0_b66))
  obtain ⟨fs, hr, hrun, hended, hW, hsame⟩ := X69.leave (v := none) (fun _ => rfl)
  refine ⟨_, _, ?_, hrun, hended, _, _, rfl, ?_, ⟨_, rfl⟩, hW, hsame.mono (by decide) (by decide)⟩
  · rw [← hG0]
    refine K69 _ ?_
    exact X69.returnOut hx Bd.returns (hb hby d1_68) hr
  · show Q1 Z a0 u_unknownCount u_determined u_reducedBy u_multipliers u_lengths u_pivotEquation u_pivotUnknowns u_pivotCoefficients h0 n0 _ T69.heap _
    rw [e69]
    exact ⟨rfl, N69, KQ70_15, b14, b22, b31, b43, b54, b66, k14, k22, k31, k43, k54, k66, ⟨gn, gn14, gn22, gn31, gn43, gn54, gn66, ne_a0_b14, ne_a0_b22, ne_a0_b31, ne_a0_b43, ne_a0_b54, ne_a0_b66, ne_b14_b22, ne_b14_b31, ne_b14_b43, ne_b14_b54, ne_b14_b66, ne_b22_b31, ne_b22_b43, ne_b22_b54, ne_b22_b66, ne_b31_b43, ne_b31_b54, ne_b31_b66, ne_b43_b54, ne_b43_b66, ne_b54_b66, O14, O22, O54, O66⟩, ⟨f71, f72, f73, f74, f75, f76, f77, f78, f79, Fw69, f80, f81, f82, f83, f84, f85⟩⟩
theorem d4_0 : decode prog_18_method_2_code 0 = .ok (.aload_n 0, 1) := by decide +kernel
theorem d4_1 : decode prog_18_method_2_code 1 = .ok (.dup, 1) := by decide +kernel
theorem d4_2 : decode prog_18_method_2_code 2 = .ok (.getfield 47, 3) := by decide +kernel
theorem d4_5 : decode prog_18_method_2_code 5 = .ok (.dup_x1, 1) := by decide +kernel
theorem d4_6 : decode prog_18_method_2_code 6 = .ok (.iconst 1, 1) := by decide +kernel
theorem d4_7 : decode prog_18_method_2_code 7 = .ok (.iadd, 1) := by decide +kernel
theorem d4_8 : decode prog_18_method_2_code 8 = .ok (.putfield 47, 3) := by decide +kernel
theorem d4_11 : decode prog_18_method_2_code 11 = .ok (.istore 4, 2) := by decide +kernel
theorem d4_13 : decode prog_18_method_2_code 13 = .ok (.aload_n 0, 1) := by decide +kernel
theorem d4_14 : decode prog_18_method_2_code 14 = .ok (.getfield 38, 3) := by decide +kernel
theorem d4_17 : decode prog_18_method_2_code 17 = .ok (.iload 4, 2) := by decide +kernel
theorem d4_19 : decode prog_18_method_2_code 19 = .ok (.iload_n 1, 1) := by decide +kernel
theorem d4_20 : decode prog_18_method_2_code 20 = .ok (.iastore, 1) := by decide +kernel
theorem d4_21 : decode prog_18_method_2_code 21 = .ok (.aload_n 0, 1) := by decide +kernel
theorem d4_22 : decode prog_18_method_2_code 22 = .ok (.getfield 41, 3) := by decide +kernel
theorem d4_25 : decode prog_18_method_2_code 25 = .ok (.iload 4, 2) := by decide +kernel
theorem d4_27 : decode prog_18_method_2_code 27 = .ok (.aload_n 2, 1) := by decide +kernel
theorem d4_28 : decode prog_18_method_2_code 28 = .ok (.aastore, 1) := by decide +kernel
theorem d4_29 : decode prog_18_method_2_code 29 = .ok (.aload_n 0, 1) := by decide +kernel
theorem d4_30 : decode prog_18_method_2_code 30 = .ok (.getfield 44, 3) := by decide +kernel
theorem d4_33 : decode prog_18_method_2_code 33 = .ok (.iload 4, 2) := by decide +kernel
theorem d4_35 : decode prog_18_method_2_code 35 = .ok (.aload_n 3, 1) := by decide +kernel
theorem d4_36 : decode prog_18_method_2_code 36 = .ok (.aastore, 1) := by decide +kernel
theorem d4_37 : decode prog_18_method_2_code 37 = .ok (.iload 4, 2) := by decide +kernel
theorem d4_39 : decode prog_18_method_2_code 39 = .ok (.ireturn, 1) := by decide +kernel
theorem ef_rm4_0 (m : MethodId) (a0 : Addr) (p1 : Int32) (a2 : Addr) (a3 : Addr) : entryFrame m #[(.ref a0), (.int p1), (.ref a2), (.ref a3)] 5 = (mkF m 0 #[.val (.ref a0), .val (.int p1), .val (.ref a2), .val (.ref a3), .unset] []) := by first | (simp [entryFrame, mkF, argsToLocals, Value.category]; done) | rfl
def Q4_0 (Z : State) (a0 : Addr) (p1 : Int32) (a2 : Addr) (a3 : Addr) (rb : Addr) (ml : Addr) (ln : Addr) (pe : Addr) (pu : Addr) (pc : Addr) (kr : ClassId) (km : ClassId) (kl : ClassId) (ke : ClassId) (ku : ClassId) (kc : ClassId) (rd : Int64) (lrb : List Value) (lml : List Value) (lln : List Value) (le0 : Value) (le1 : Value) (le2 : Value) (lu0 : Value) (lu1 : Value) (lu2 : Value) (lc0 : Value) (lc1 : Value) (lc2 : Value) (h0 : Heap) (n0 : Nat) (v : Option Value) (h : Heap) (L : List Loc) : Prop := v = some (.int (0 : Int32)) ∧ Fr n0 L ∧ Keep h0 h [a0, pe, pu, pc] ∧ own_Fac Z h a0 rb ml ln pe pu pc kr km kl ke ku kc (3 : Int32) (1 : Int32) rd lrb lml lln [(.int p1), le1, le2] [(.ref a2), lu1, lu2] [(.ref a3), lc1, lc2]
set_option maxRecDepth 65536 in
set_option maxHeartbeats 40000000 in
theorem rm4_0 (l : Launch) (Z : State) (aa : Array Value) (hw : ∀ d ∈ tables_1, d.before aa Z = true) (ws : List Jvm.Cond) (a0 : Addr) (p1 : Int32) (a2 : Addr) (a3 : Addr) (rb : Addr) (ml : Addr) (ln : Addr) (pe : Addr) (pu : Addr) (pc : Addr) (kr : ClassId) (km : ClassId) (kl : ClassId) (ke : ClassId) (ku : ClassId) (kc : ClassId) (rd : Int64) (lrb : List Value) (lml : List Value) (lln : List Value) (le0 : Value) (le1 : Value) (le2 : Value) (lu0 : Value) (lu1 : Value) (lu2 : Value) (lc0 : Value) (lc1 : Value) (lc2 : Value) (h0 : Heap) (n0 : Nat) (Z0 : n0 ≤ h0.size) (SP : own_Sep Z n0 a0 rb ml ln pe pu pc kr km ku kc) (FA : own_Fac Z h0 a0 rb ml ln pe pu pc kr km kl ke ku kc (3 : Int32) (0 : Int32) rd lrb lml lln [le0, le1, le2] [lu0, lu1, lu2] [lc0, lc1, lc2]) (E2 : Exa Z h0 a2 "[I") (E3 : Exa Z h0 a3 "[D") :
    MetFree l (⟨"com/example/sondage/sondage/inference/Factorization", "pivot", "(I[I[D)I"⟩ : MethodName) (head1 (Jvm.Cond.code (⟨"com/example/sondage/sondage/inference/Factorization", "pivot", "(I[I[D)I"⟩ : MethodName) prog_18_method_2_code 5 (some .int) :: ws) ({ frames := 0, cells := 0, slots := 0, locals := 0 } : Room)) (fun a U => a = #[(.ref a0), (.int p1), (.ref a2), (.ref a3)] ∧ Z.Warmed39 U.vm ∧ U.heap = h0) (fun _ _ _ _ _ => True) (fun _ U o U' => ∃ v L, o = .returned v ∧ Q4_0 Z a0 p1 a2 a3 rb ml ln pe pu pc kr km kl ke ku kc rd lrb lml lln le0 le1 le2 lu0 lu1 lu2 lc0 lc1 lc2 h0 n0 v U'.heap L ∧ FrameEnd U o U' L ({ frames := 0, cells := 0, slots := 0, locals := 0 } : Room).cells ({ frames := 0, cells := 0, slots := 0, locals := 0 } : Room).slots) := by
  refine MetFree.of_bodySF (plainFor_of_name pn_com_example_sondage_sondage_inference_Factorization) hisR ?_
  intro p e s m args below meth c s₁ Bd hml0 hP hK
  obtain ⟨rfl, hZ, hh⟩ := hP
  have hx := Bd.exec
  have hby := Bd.bytes
  have hml : c.maxLocals = 5 := hml0
  have hown : s.vm.findClass "com/example/sondage/sondage/inference/Factorization" = some m.cls := findClass_of_methodNamed Bd.named
  have hnm := (name_of_methodNamed Bd.named Bd.method).1
  have X0 : Stand p l e ({ frames := 0, cells := 0, slots := 0, locals := 0 } : Room) s m #[(.ref a0), (.int p1), (.ref a2), (.ref a3)] below meth c s₁ [] 0 0 := Stand.of_body Bd
  have e0 : s₁.heap = h0 := by rw [← hh, Bd.state]; rfl
  have N0 := Fr.nil n0
  obtain ⟨G0, hG0⟩ : ∃ G, G = s₁.setTop (entryFrame m #[(.ref a0), (.int p1), (.ref a2), (.ref a3)] 5) := ⟨_, rfl⟩
  have K0 : own_K p e below G0 s₁ (mkF m 0 #[.val (.ref a0), .val (.int p1), .val (.ref a2), .val (.ref a3), .unset] []) := fun t k => by rw [hG0]; exact castTop (ef_rm4_0 m a0 p1 a2 a3) k
  obtain ⟨fc_0, fc_1, fc_2, fc_3, fc_4, fc_5, fc_6, fc_7, fc_8, fc_9, fc_10, fc_11, fc_12, fc_13, fc_14, fc_15⟩ := id FA
  obtain ⟨fg_0, fg_1, fg_2, fg_3, fg_4, fg_5, fg_6, ne_a0_rb, ne_a0_ml, ne_a0_ln, ne_a0_pe, ne_a0_pu, ne_a0_pc, ne_rb_ml, ne_rb_ln, ne_rb_pe, ne_rb_pu, ne_rb_pc, ne_ml_ln, ne_ml_pe, ne_ml_pu, ne_ml_pc, ne_ln_pe, ne_ln_pu, ne_ln_pc, ne_pe_pu, ne_pe_pc, ne_pu_pc, ov_0, ov_1, ov_2, ov_3⟩ := id SP
  have K1 : own_K p e below G0 s₁ (mkF m 2 #[.val (.ref a0), .val (.int p1), .val (.ref a2), .val (.ref a3), .unset] [(.ref a0), (.ref a0)]) := by
    intro t kt
    refine K0 t ?_
    refine XS.aloadN X0.here hx rfl (hb hby d4_0) rfl rfl ?_
    show own_S p e below s₁ (mkF m 1 _ [(.ref a0)]) _
    refine XS.dup X0.here hx rfl (hb hby d4_1) rfl rfl ?_
    show own_S p e below s₁ (mkF m 2 _ [(.ref a0), (.ref a0)]) _
    exact kt
  obtain ⟨T2, X2, e2, st2⟩ := getF X0 hx hZ hown (host := "") (Or.inl (hw _ (List.mem_of_getElem? (i := 43) rfl))) Via.refl e0 fc_2 (g := (mkF m 2 #[.val (.ref a0), .val (.int p1), .val (.ref a2), .val (.ref a3), .unset] [(.ref a0), (.ref a0)])) rfl rfl (hb hby d4_2)
  have K2 : own_K p e below G0 T2 (mkF m 5 #[.val (.ref a0), .val (.int p1), .val (.ref a2), .val (.ref a3), .unset] [(.int (0 : Int32)), (.ref a0)]) := fun t kt => K1 t (st2 _ kt)
  have K3 : own_K p e below G0 T2 (mkF m 8 #[.val (.ref a0), .val (.int p1), .val (.ref a2), .val (.ref a3), .unset] [(.int ((0 : Int32) + (1 : Int32))), (.ref a0), (.int (0 : Int32))]) := by
    intro t kt
    refine K2 t ?_
    refine XS.dupX1 X2.here hx rfl (hb hby d4_5) rfl rfl rfl ?_
    show own_S p e below T2 (mkF m 6 _ [(.int (0 : Int32)), (.ref a0), (.int (0 : Int32))]) _
    refine XS.iconst X2.here hx rfl (hb hby d4_6) ?_
    show own_S p e below T2 (mkF m 7 _ [(.int (1 : Int32)), (.int (0 : Int32)), (.ref a0), (.int (0 : Int32))]) _
    refine XS.iadd X2.here hx rfl (hb hby d4_7) rfl ?_
    show own_S p e below T2 (mkF m 8 _ [(.int ((0 : Int32) + (1 : Int32))), (.ref a0), (.int (0 : Int32))]) _
    exact kt
  obtain ⟨T4, h4, X4, e4, W4, st4⟩ := putF X2 hx hZ hown (host := "") (Or.inl (hw _ (List.mem_of_getElem? (i := 43) rfl))) Via.refl e2 fc_2 fc_0 (Or.inl (hw _ (List.mem_of_getElem? (i := 44) rfl))) (hw _ (List.mem_of_getElem? (i := 6) rfl)) (ty := .int) (by decide) rfl rfl (g := (mkF m 8 #[.val (.ref a0), .val (.int p1), .val (.ref a2), .val (.ref a3), .unset] [(.int ((0 : Int32) + (1 : Int32))), (.ref a0), (.int (0 : Int32))])) rfl rfl (hb hby d4_8)
  have K4 : own_K p e below G0 T4 (mkF m 11 #[.val (.ref a0), .val (.int p1), .val (.ref a2), .val (.ref a3), .unset] [(.int (0 : Int32))]) := fun t kt => K3 t (st4 _ kt)
  have Fw4 := (fc_2).same W4
  have N4 := Fr.snoc X4 N0 fg_0
  have Z4 : n0 ≤ h4.size := Nat.le_trans Z0 (Keep.of_wr W4).1
  have K5 : own_K p e below G0 T4 (mkF m 14 #[.val (.ref a0), .val (.int p1), .val (.ref a2), .val (.ref a3), .val (.int (0 : Int32))] [(.ref a0)]) := by
    intro t kt
    refine K4 t ?_
    refine XS.istore X4.here hx rfl (hb hby d4_11) rfl (l' := #[.val (.ref a0), .val (.int p1), .val (.ref a2), .val (.ref a3), .val (.int (0 : Int32))]) rfl ?_
    show own_S p e below T4 (mkF m 13 _ []) _
    refine XS.aloadN X4.here hx rfl (hb hby d4_13) rfl rfl ?_
    show own_S p e below T4 (mkF m 14 _ [(.ref a0)]) _
    exact kt
  have f6 := (fc_7.other W4 (Or.inr (slot_ne (Or.inr (hw _ (List.mem_of_getElem? (i := 33) rfl))) (Or.inl (hw _ (List.mem_of_getElem? (i := 44) rfl))) (by decide) (t := (.array .int)) (t' := .int) (by decide) (by decide))))
  obtain ⟨T7, X7, e7, st7⟩ := getF X4 hx hZ hown (host := "") (Or.inl (hw _ (List.mem_of_getElem? (i := 32) rfl))) Via.refl e4 f6 (g := (mkF m 14 #[.val (.ref a0), .val (.int p1), .val (.ref a2), .val (.ref a3), .val (.int (0 : Int32))] [(.ref a0)])) rfl rfl (hb hby d4_14)
  have K7 : own_K p e below G0 T7 (mkF m 17 #[.val (.ref a0), .val (.int p1), .val (.ref a2), .val (.ref a3), .val (.int (0 : Int32))] [(.ref pe)]) := fun t kt => K5 t (st7 _ kt)
  have K8 : own_K p e below G0 T7 (mkF m 20 #[.val (.ref a0), .val (.int p1), .val (.ref a2), .val (.ref a3), .val (.int (0 : Int32))] [(.int p1), (.int (0 : Int32)), (.ref pe)]) := by
    intro t kt
    refine K7 t ?_
    refine XS.iload X7.here hx rfl (hb hby d4_17) rfl ?_
    show own_S p e below T7 (mkF m 19 _ [(.int (0 : Int32)), (.ref pe)]) _
    refine XS.iloadN X7.here hx rfl (hb hby d4_19) rfl ?_
    show own_S p e below T7 (mkF m 20 _ [(.int p1), (.int (0 : Int32)), (.ref pe)]) _
    exact kt
  have f9 := (fc_13.other W4 (Ne.symm ne_a0_pe))
  obtain ⟨cl10, Ar10, qq10, S10, M10, H10, GG10⟩ := id f9
  have hin10 : ¬ ((0 : Int32) < 0 ∨ cl10.slots.size ≤ ((0 : Int32)).toNatClampNeg) := inb_of S10 ⟨by decide, by decide⟩
  obtain ⟨T11, h11, X11, e11, W11, st11⟩ := stI X7 hx hZ e7 Ar10 (j := (0 : Int32)) hin10 (g := (mkF m 20 #[.val (.ref a0), .val (.int p1), .val (.ref a2), .val (.ref a3), .val (.int (0 : Int32))] [(.int p1), (.int (0 : Int32)), (.ref pe)])) rfl rfl (hb hby d4_20)
  have K11 : own_K p e below G0 T11 (mkF m 21 #[.val (.ref a0), .val (.int p1), .val (.ref a2), .val (.ref a3), .val (.int (0 : Int32))] []) := fun t kt => K8 t (st11 _ kt)
  have Z11 : n0 ≤ h11.size := Nat.le_trans Z4 (Keep.of_wr W11).1
  have VL11 : Arv Z h11 pe ke .int (3 : Int32) [(.int p1), le1, le2] (.int (0 : Int32)) := Arv.set Ar10 qq10 S10 M10 H10 GG10 rfl W11 0 rfl (Nat.le_of_ble_eq_true rfl)
  have N11 := Fr.snoc X11 N4 fg_4
  have K12 : own_K p e below G0 T11 (mkF m 22 #[.val (.ref a0), .val (.int p1), .val (.ref a2), .val (.ref a3), .val (.int (0 : Int32))] [(.ref a0)]) := by
    intro t kt
    refine K11 t ?_
    refine XS.aloadN X11.here hx rfl (hb hby d4_21) rfl rfl ?_
    show own_S p e below T11 (mkF m 22 _ [(.ref a0)]) _
    exact kt
  have f13 := ((fc_8.other W4 (Or.inr (slot_ne (Or.inr (hw _ (List.mem_of_getElem? (i := 35) rfl))) (Or.inl (hw _ (List.mem_of_getElem? (i := 44) rfl))) (by decide) (t := (.array (.array .int))) (t' := .int) (by decide) (by decide)))).other W11 (Or.inl ne_a0_pe))
  obtain ⟨T14, X14, e14, st14⟩ := getF X11 hx hZ hown (host := "") (Or.inl (hw _ (List.mem_of_getElem? (i := 34) rfl))) Via.refl e11 f13 (g := (mkF m 22 #[.val (.ref a0), .val (.int p1), .val (.ref a2), .val (.ref a3), .val (.int (0 : Int32))] [(.ref a0)])) rfl rfl (hb hby d4_22)
  have K14 : own_K p e below G0 T14 (mkF m 25 #[.val (.ref a0), .val (.int p1), .val (.ref a2), .val (.ref a3), .val (.int (0 : Int32))] [(.ref pu)]) := fun t kt => K12 t (st14 _ kt)
  have K15 : own_K p e below G0 T14 (mkF m 28 #[.val (.ref a0), .val (.int p1), .val (.ref a2), .val (.ref a3), .val (.int (0 : Int32))] [(.ref a2), (.int (0 : Int32)), (.ref pu)]) := by
    intro t kt
    refine K14 t ?_
    refine XS.iload X14.here hx rfl (hb hby d4_25) rfl ?_
    show own_S p e below T14 (mkF m 27 _ [(.int (0 : Int32)), (.ref pu)]) _
    refine XS.aloadN X14.here hx rfl (hb hby d4_27) rfl rfl ?_
    show own_S p e below T14 (mkF m 28 _ [(.ref a2), (.int (0 : Int32)), (.ref pu)]) _
    exact kt
  have f16 := ((fc_14.other W4 (Ne.symm ne_a0_pu)).other W11 (Ne.symm ne_pe_pu))
  obtain ⟨cl17, Ar17, qq17, S17, M17, H17, GG17⟩ := id f16
  have hin17 : ¬ ((0 : Int32) < 0 ∨ cl17.slots.size ≤ ((0 : Int32)).toNatClampNeg) := inb_of S17 ⟨by decide, by decide⟩
  have f18 := ((E2.wr W4).wr W11)
  obtain ⟨T19, h19, X19, e19, W19, st19⟩ := stR X14 hx hZ e14 Ar17 (j := (0 : Int32)) hin17 rfl (Sto.ofVA Ar17 qq17 ov_2 (Ins.self f18)) (g := (mkF m 28 #[.val (.ref a0), .val (.int p1), .val (.ref a2), .val (.ref a3), .val (.int (0 : Int32))] [(.ref a2), (.int (0 : Int32)), (.ref pu)])) rfl rfl (hb hby d4_28)
  have K19 : own_K p e below G0 T19 (mkF m 29 #[.val (.ref a0), .val (.int p1), .val (.ref a2), .val (.ref a3), .val (.int (0 : Int32))] []) := fun t kt => K15 t (st19 _ kt)
  have Z19 : n0 ≤ h19.size := Nat.le_trans Z11 (Keep.of_wr W19).1
  have VL19 : Arv Z h19 pu ku (.array .int) (3 : Int32) [(.ref a2), lu1, lu2] .null := Arv.set Ar17 qq17 S17 M17 H17 GG17 rfl W19 0 rfl (Nat.le_of_ble_eq_true rfl)
  have N19 := Fr.snoc X19 N11 fg_5
  have K20 : own_K p e below G0 T19 (mkF m 30 #[.val (.ref a0), .val (.int p1), .val (.ref a2), .val (.ref a3), .val (.int (0 : Int32))] [(.ref a0)]) := by
    intro t kt
    refine K19 t ?_
    refine XS.aloadN X19.here hx rfl (hb hby d4_29) rfl rfl ?_
    show own_S p e below T19 (mkF m 30 _ [(.ref a0)]) _
    exact kt
  have f21 := (((fc_9.other W4 (Or.inr (slot_ne (Or.inr (hw _ (List.mem_of_getElem? (i := 37) rfl))) (Or.inl (hw _ (List.mem_of_getElem? (i := 44) rfl))) (by decide) (t := (.array (.array .double))) (t' := .int) (by decide) (by decide)))).other W11 (Or.inl ne_a0_pe)).other W19 (Or.inl ne_a0_pu))
  obtain ⟨T22, X22, e22, st22⟩ := getF X19 hx hZ hown (host := "") (Or.inl (hw _ (List.mem_of_getElem? (i := 36) rfl))) Via.refl e19 f21 (g := (mkF m 30 #[.val (.ref a0), .val (.int p1), .val (.ref a2), .val (.ref a3), .val (.int (0 : Int32))] [(.ref a0)])) rfl rfl (hb hby d4_30)
  have K22 : own_K p e below G0 T22 (mkF m 33 #[.val (.ref a0), .val (.int p1), .val (.ref a2), .val (.ref a3), .val (.int (0 : Int32))] [(.ref pc)]) := fun t kt => K20 t (st22 _ kt)
  have K23 : own_K p e below G0 T22 (mkF m 36 #[.val (.ref a0), .val (.int p1), .val (.ref a2), .val (.ref a3), .val (.int (0 : Int32))] [(.ref a3), (.int (0 : Int32)), (.ref pc)]) := by
    intro t kt
    refine K22 t ?_
    refine XS.iload X22.here hx rfl (hb hby d4_33) rfl ?_
    show own_S p e below T22 (mkF m 35 _ [(.int (0 : Int32)), (.ref pc)]) _
    refine XS.aloadN X22.here hx rfl (hb hby d4_35) rfl rfl ?_
    show own_S p e below T22 (mkF m 36 _ [(.ref a3), (.int (0 : Int32)), (.ref pc)]) _
    exact kt
  have f24 := (((fc_15.other W4 (Ne.symm ne_a0_pc)).other W11 (Ne.symm ne_pe_pc)).other W19 (Ne.symm ne_pu_pc))
  obtain ⟨cl25, Ar25, qq25, S25, M25, H25, GG25⟩ := id f24
  have hin25 : ¬ ((0 : Int32) < 0 ∨ cl25.slots.size ≤ ((0 : Int32)).toNatClampNeg) := inb_of S25 ⟨by decide, by decide⟩
  have f26 := (((E3.wr W4).wr W11).wr W19)
  obtain ⟨T27, h27, X27, e27, W27, st27⟩ := stR X22 hx hZ e22 Ar25 (j := (0 : Int32)) hin25 rfl (Sto.ofVA Ar25 qq25 ov_3 (Ins.self f26)) (g := (mkF m 36 #[.val (.ref a0), .val (.int p1), .val (.ref a2), .val (.ref a3), .val (.int (0 : Int32))] [(.ref a3), (.int (0 : Int32)), (.ref pc)])) rfl rfl (hb hby d4_36)
  have K27 : own_K p e below G0 T27 (mkF m 37 #[.val (.ref a0), .val (.int p1), .val (.ref a2), .val (.ref a3), .val (.int (0 : Int32))] []) := fun t kt => K23 t (st27 _ kt)
  have Z27 : n0 ≤ h27.size := Nat.le_trans Z19 (Keep.of_wr W27).1
  have VL27 : Arv Z h27 pc kc (.array .double) (3 : Int32) [(.ref a3), lc1, lc2] .null := Arv.set Ar25 qq25 S25 M25 H25 GG25 rfl W27 0 rfl (Nat.le_of_ble_eq_true rfl)
  have N27 := Fr.snoc X27 N19 fg_6
  have K28 : own_K p e below G0 T27 (mkF m 39 #[.val (.ref a0), .val (.int p1), .val (.ref a2), .val (.ref a3), .val (.int (0 : Int32))] [(.int (0 : Int32))]) := by
    intro t kt
    refine K27 t ?_
    refine XS.iload X27.here hx rfl (hb hby d4_37) rfl ?_
    show own_S p e below T27 (mkF m 39 _ [(.int (0 : Int32))]) _
    exact kt
  have KQ29_0 := Keep.refl h0 [a0, pe, pu, pc]
  have KQ29_1 := KQ29_0.wr W4 (Or.inl (List.mem_of_getElem? (i := 0) rfl))
  have KQ29_2 := KQ29_1.wr W11 (Or.inl (List.mem_of_getElem? (i := 1) rfl))
  have KQ29_3 := KQ29_2.wr W19 (Or.inl (List.mem_of_getElem? (i := 2) rfl))
  have KQ29_4 := KQ29_3.wr W27 (Or.inl (List.mem_of_getElem? (i := 3) rfl))
  have f30 := ((((fc_0.wr W4).wr W11).wr W19).wr W27)
  have f31 := ((((fc_1.other W4 (Or.inr (slot_ne (Or.inr (hw _ (List.mem_of_getElem? (i := 15) rfl))) (Or.inl (hw _ (List.mem_of_getElem? (i := 44) rfl))) (by decide) (t := .int) (t' := .int) (by decide) (by decide)))).other W11 (Or.inl ne_a0_pe)).other W19 (Or.inl ne_a0_pu)).other W27 (Or.inl ne_a0_pc))
  have f32 := (((Fw4.other W11 (Or.inl ne_a0_pe)).other W19 (Or.inl ne_a0_pu)).other W27 (Or.inl ne_a0_pc))
  have f33 := ((((fc_3.other W4 (Or.inr (slot_ne (Or.inl (hw _ (List.mem_of_getElem? (i := 52) rfl))) (Or.inl (hw _ (List.mem_of_getElem? (i := 44) rfl))) (by decide) (t := .long) (t' := .int) (by decide) (by decide)))).other W11 (Or.inl ne_a0_pe)).other W19 (Or.inl ne_a0_pu)).other W27 (Or.inl ne_a0_pc))
  have f34 := ((((fc_4.other W4 (Or.inr (slot_ne (Or.inr (hw _ (List.mem_of_getElem? (i := 21) rfl))) (Or.inl (hw _ (List.mem_of_getElem? (i := 44) rfl))) (by decide) (t := (.array (.array .int))) (t' := .int) (by decide) (by decide)))).other W11 (Or.inl ne_a0_pe)).other W19 (Or.inl ne_a0_pu)).other W27 (Or.inl ne_a0_pc))
  have f35 := ((((fc_5.other W4 (Or.inr (slot_ne (Or.inr (hw _ (List.mem_of_getElem? (i := 25) rfl))) (Or.inl (hw _ (List.mem_of_getElem? (i := 44) rfl))) (by decide) (t := (.array (.array .double))) (t' := .int) (by decide) (by decide)))).other W11 (Or.inl ne_a0_pe)).other W19 (Or.inl ne_a0_pu)).other W27 (Or.inl ne_a0_pc))
  have f36 := ((((fc_6.other W4 (Or.inr (slot_ne (Or.inr (hw _ (List.mem_of_getElem? (i := 27) rfl))) (Or.inl (hw _ (List.mem_of_getElem? (i := 44) rfl))) (by decide) (t := (.array .int)) (t' := .int) (by decide) (by decide)))).other W11 (Or.inl ne_a0_pe)).other W19 (Or.inl ne_a0_pu)).other W27 (Or.inl ne_a0_pc))
  have f37 := (((f6.other W11 (Or.inl ne_a0_pe)).other W19 (Or.inl ne_a0_pu)).other W27 (Or.inl ne_a0_pc))
  have f38 := ((f13.other W19 (Or.inl ne_a0_pu)).other W27 (Or.inl ne_a0_pc))
  have f39 := (f21.other W27 (Or.inl ne_a0_pc))
  have f40 := ((((fc_10.other W4 (Ne.symm ne_a0_rb)).other W11 ne_rb_pe).other W19 ne_rb_pu).other W27 ne_rb_pc)
  have f41 := ((((fc_11.other W4 (Ne.symm ne_a0_ml)).other W11 ne_ml_pe).other W19 ne_ml_pu).other W27 ne_ml_pc)
  have f42 := ((((fc_12.other W4 (Ne.symm ne_a0_ln)).other W11 ne_ln_pe).other W19 ne_ln_pu).other W27 ne_ln_pc)
  have f43 := ((VL11.other W19 ne_pe_pu).other W27 ne_pe_pc)
  have f44 := (VL19.other W27 ne_pu_pc)
  obtain ⟨fs, hr, hrun, hended, hW, hsame⟩ := X27.leave (v := some (.int (0 : Int32))) (fun h => by rw [Bd.returns] at h; cases h)
  refine ⟨_, _, ?_, hrun, hended, _, _, rfl, ?_, ⟨_, rfl⟩, hW, hsame.mono (by decide) (by decide)⟩
  · rw [← hG0]
    refine K28 _ ?_
    exact retOut X27 hx (t := .int) Bd.returns rfl (Or.inl ⟨rfl, Or.inl rfl, _, rfl⟩) (hb hby d4_39) hr
  · show Q4_0 Z a0 p1 a2 a3 rb ml ln pe pu pc kr km kl ke ku kc rd lrb lml lln le0 le1 le2 lu0 lu1 lu2 lc0 lc1 lc2 h0 n0 _ T27.heap _
    rw [e27]
    exact ⟨rfl, N27, KQ29_4, ⟨f30, f31, f32, f33, f34, f35, f36, f37, f38, f39, f40, f41, f42, f43, f44, VL27⟩⟩
theorem ef_rm4_1 (m : MethodId) (a0 : Addr) (p1 : Int32) (a2 : Addr) (a3 : Addr) : entryFrame m #[(.ref a0), (.int p1), (.ref a2), (.ref a3)] 5 = (mkF m 0 #[.val (.ref a0), .val (.int p1), .val (.ref a2), .val (.ref a3), .unset] []) := by first | (simp [entryFrame, mkF, argsToLocals, Value.category]; done) | rfl
def Q4_1 (Z : State) (a0 : Addr) (p1 : Int32) (a2 : Addr) (a3 : Addr) (rb : Addr) (ml : Addr) (ln : Addr) (pe : Addr) (pu : Addr) (pc : Addr) (kr : ClassId) (km : ClassId) (kl : ClassId) (ke : ClassId) (ku : ClassId) (kc : ClassId) (rd : Int64) (lrb : List Value) (lml : List Value) (lln : List Value) (le0 : Value) (le1 : Value) (le2 : Value) (lu0 : Value) (lu1 : Value) (lu2 : Value) (lc0 : Value) (lc1 : Value) (lc2 : Value) (h0 : Heap) (n0 : Nat) (v : Option Value) (h : Heap) (L : List Loc) : Prop := v = some (.int (1 : Int32)) ∧ Fr n0 L ∧ Keep h0 h [a0, pe, pu, pc] ∧ own_Fac Z h a0 rb ml ln pe pu pc kr km kl ke ku kc (3 : Int32) (2 : Int32) rd lrb lml lln [le0, (.int p1), le2] [lu0, (.ref a2), lu2] [lc0, (.ref a3), lc2]
set_option maxRecDepth 65536 in
set_option maxHeartbeats 40000000 in
theorem rm4_1 (l : Launch) (Z : State) (aa : Array Value) (hw : ∀ d ∈ tables_1, d.before aa Z = true) (ws : List Jvm.Cond) (a0 : Addr) (p1 : Int32) (a2 : Addr) (a3 : Addr) (rb : Addr) (ml : Addr) (ln : Addr) (pe : Addr) (pu : Addr) (pc : Addr) (kr : ClassId) (km : ClassId) (kl : ClassId) (ke : ClassId) (ku : ClassId) (kc : ClassId) (rd : Int64) (lrb : List Value) (lml : List Value) (lln : List Value) (le0 : Value) (le1 : Value) (le2 : Value) (lu0 : Value) (lu1 : Value) (lu2 : Value) (lc0 : Value) (lc1 : Value) (lc2 : Value) (h0 : Heap) (n0 : Nat) (Z0 : n0 ≤ h0.size) (SP : own_Sep Z n0 a0 rb ml ln pe pu pc kr km ku kc) (FA : own_Fac Z h0 a0 rb ml ln pe pu pc kr km kl ke ku kc (3 : Int32) (1 : Int32) rd lrb lml lln [le0, le1, le2] [lu0, lu1, lu2] [lc0, lc1, lc2]) (E2 : Exa Z h0 a2 "[I") (E3 : Exa Z h0 a3 "[D") :
    MetFree l (⟨"com/example/sondage/sondage/inference/Factorization", "pivot", "(I[I[D)I"⟩ : MethodName) (head1 (Jvm.Cond.code (⟨"com/example/sondage/sondage/inference/Factorization", "pivot", "(I[I[D)I"⟩ : MethodName) prog_18_method_2_code 5 (some .int) :: ws) ({ frames := 0, cells := 0, slots := 0, locals := 0 } : Room)) (fun a U => a = #[(.ref a0), (.int p1), (.ref a2), (.ref a3)] ∧ Z.Warmed39 U.vm ∧ U.heap = h0) (fun _ _ _ _ _ => True) (fun _ U o U' => ∃ v L, o = .returned v ∧ Q4_1 Z a0 p1 a2 a3 rb ml ln pe pu pc kr km kl ke ku kc rd lrb lml lln le0 le1 le2 lu0 lu1 lu2 lc0 lc1 lc2 h0 n0 v U'.heap L ∧ FrameEnd U o U' L ({ frames := 0, cells := 0, slots := 0, locals := 0 } : Room).cells ({ frames := 0, cells := 0, slots := 0, locals := 0 } : Room).slots) := by
  refine MetFree.of_bodySF (plainFor_of_name pn_com_example_sondage_sondage_inference_Factorization) hisR ?_
  intro p e s m args below meth c s₁ Bd hml0 hP hK
  obtain ⟨rfl, hZ, hh⟩ := hP
  have hx := Bd.exec
  have hby := Bd.bytes
  have hml : c.maxLocals = 5 := hml0
  have hown : s.vm.findClass "com/example/sondage/sondage/inference/Factorization" = some m.cls := findClass_of_methodNamed Bd.named
  have hnm := (name_of_methodNamed Bd.named Bd.method).1
  have X0 : Stand p l e ({ frames := 0, cells := 0, slots := 0, locals := 0 } : Room) s m #[(.ref a0), (.int p1), (.ref a2), (.ref a3)] below meth c s₁ [] 0 0 := Stand.of_body Bd
  have e0 : s₁.heap = h0 := by rw [← hh, Bd.state]; rfl
  have N0 := Fr.nil n0
  obtain ⟨G0, hG0⟩ : ∃ G, G = s₁.setTop (entryFrame m #[(.ref a0), (.int p1), (.ref a2), (.ref a3)] 5) := ⟨_, rfl⟩
  have K0 : own_K p e below G0 s₁ (mkF m 0 #[.val (.ref a0), .val (.int p1), .val (.ref a2), .val (.ref a3), .unset] []) := fun t k => by rw [hG0]; exact castTop (ef_rm4_1 m a0 p1 a2 a3) k
  obtain ⟨fc_0, fc_1, fc_2, fc_3, fc_4, fc_5, fc_6, fc_7, fc_8, fc_9, fc_10, fc_11, fc_12, fc_13, fc_14, fc_15⟩ := id FA
  obtain ⟨fg_0, fg_1, fg_2, fg_3, fg_4, fg_5, fg_6, ne_a0_rb, ne_a0_ml, ne_a0_ln, ne_a0_pe, ne_a0_pu, ne_a0_pc, ne_rb_ml, ne_rb_ln, ne_rb_pe, ne_rb_pu, ne_rb_pc, ne_ml_ln, ne_ml_pe, ne_ml_pu, ne_ml_pc, ne_ln_pe, ne_ln_pu, ne_ln_pc, ne_pe_pu, ne_pe_pc, ne_pu_pc, ov_0, ov_1, ov_2, ov_3⟩ := id SP
  have K1 : own_K p e below G0 s₁ (mkF m 2 #[.val (.ref a0), .val (.int p1), .val (.ref a2), .val (.ref a3), .unset] [(.ref a0), (.ref a0)]) := by
    intro t kt
    refine K0 t ?_
    refine XS.aloadN X0.here hx rfl (hb hby d4_0) rfl rfl ?_
    show own_S p e below s₁ (mkF m 1 _ [(.ref a0)]) _
    refine XS.dup X0.here hx rfl (hb hby d4_1) rfl rfl ?_
    show own_S p e below s₁ (mkF m 2 _ [(.ref a0), (.ref a0)]) _
    exact kt
  obtain ⟨T2, X2, e2, st2⟩ := getF X0 hx hZ hown (host := "") (Or.inl (hw _ (List.mem_of_getElem? (i := 43) rfl))) Via.refl e0 fc_2 (g := (mkF m 2 #[.val (.ref a0), .val (.int p1), .val (.ref a2), .val (.ref a3), .unset] [(.ref a0), (.ref a0)])) rfl rfl (hb hby d4_2)
  have K2 : own_K p e below G0 T2 (mkF m 5 #[.val (.ref a0), .val (.int p1), .val (.ref a2), .val (.ref a3), .unset] [(.int (1 : Int32)), (.ref a0)]) := fun t kt => K1 t (st2 _ kt)
  have K3 : own_K p e below G0 T2 (mkF m 8 #[.val (.ref a0), .val (.int p1), .val (.ref a2), .val (.ref a3), .unset] [(.int ((1 : Int32) + (1 : Int32))), (.ref a0), (.int (1 : Int32))]) := by
    intro t kt
    refine K2 t ?_
    refine XS.dupX1 X2.here hx rfl (hb hby d4_5) rfl rfl rfl ?_
    show own_S p e below T2 (mkF m 6 _ [(.int (1 : Int32)), (.ref a0), (.int (1 : Int32))]) _
    refine XS.iconst X2.here hx rfl (hb hby d4_6) ?_
    show own_S p e below T2 (mkF m 7 _ [(.int (1 : Int32)), (.int (1 : Int32)), (.ref a0), (.int (1 : Int32))]) _
    refine XS.iadd X2.here hx rfl (hb hby d4_7) rfl ?_
    show own_S p e below T2 (mkF m 8 _ [(.int ((1 : Int32) + (1 : Int32))), (.ref a0), (.int (1 : Int32))]) _
    exact kt
  obtain ⟨T4, h4, X4, e4, W4, st4⟩ := putF X2 hx hZ hown (host := "") (Or.inl (hw _ (List.mem_of_getElem? (i := 43) rfl))) Via.refl e2 fc_2 fc_0 (Or.inl (hw _ (List.mem_of_getElem? (i := 44) rfl))) (hw _ (List.mem_of_getElem? (i := 6) rfl)) (ty := .int) (by decide) rfl rfl (g := (mkF m 8 #[.val (.ref a0), .val (.int p1), .val (.ref a2), .val (.ref a3), .unset] [(.int ((1 : Int32) + (1 : Int32))), (.ref a0), (.int (1 : Int32))])) rfl rfl (hb hby d4_8)
  have K4 : own_K p e below G0 T4 (mkF m 11 #[.val (.ref a0), .val (.int p1), .val (.ref a2), .val (.ref a3), .unset] [(.int (1 : Int32))]) := fun t kt => K3 t (st4 _ kt)
  have Fw4 := (fc_2).same W4
  have N4 := Fr.snoc X4 N0 fg_0
  have Z4 : n0 ≤ h4.size := Nat.le_trans Z0 (Keep.of_wr W4).1
  have K5 : own_K p e below G0 T4 (mkF m 14 #[.val (.ref a0), .val (.int p1), .val (.ref a2), .val (.ref a3), .val (.int (1 : Int32))] [(.ref a0)]) := by
    intro t kt
    refine K4 t ?_
    refine XS.istore X4.here hx rfl (hb hby d4_11) rfl (l' := #[.val (.ref a0), .val (.int p1), .val (.ref a2), .val (.ref a3), .val (.int (1 : Int32))]) rfl ?_
    show own_S p e below T4 (mkF m 13 _ []) _
    refine XS.aloadN X4.here hx rfl (hb hby d4_13) rfl rfl ?_
    show own_S p e below T4 (mkF m 14 _ [(.ref a0)]) _
    exact kt
  have f6 := (fc_7.other W4 (Or.inr (slot_ne (Or.inr (hw _ (List.mem_of_getElem? (i := 33) rfl))) (Or.inl (hw _ (List.mem_of_getElem? (i := 44) rfl))) (by decide) (t := (.array .int)) (t' := .int) (by decide) (by decide))))
  obtain ⟨T7, X7, e7, st7⟩ := getF X4 hx hZ hown (host := "") (Or.inl (hw _ (List.mem_of_getElem? (i := 32) rfl))) Via.refl e4 f6 (g := (mkF m 14 #[.val (.ref a0), .val (.int p1), .val (.ref a2), .val (.ref a3), .val (.int (1 : Int32))] [(.ref a0)])) rfl rfl (hb hby d4_14)
  have K7 : own_K p e below G0 T7 (mkF m 17 #[.val (.ref a0), .val (.int p1), .val (.ref a2), .val (.ref a3), .val (.int (1 : Int32))] [(.ref pe)]) := fun t kt => K5 t (st7 _ kt)
  have K8 : own_K p e below G0 T7 (mkF m 20 #[.val (.ref a0), .val (.int p1), .val (.ref a2), .val (.ref a3), .val (.int (1 : Int32))] [(.int p1), (.int (1 : Int32)), (.ref pe)]) := by
    intro t kt
    refine K7 t ?_
    refine XS.iload X7.here hx rfl (hb hby d4_17) rfl ?_
    show own_S p e below T7 (mkF m 19 _ [(.int (1 : Int32)), (.ref pe)]) _
    refine XS.iloadN X7.here hx rfl (hb hby d4_19) rfl ?_
    show own_S p e below T7 (mkF m 20 _ [(.int p1), (.int (1 : Int32)), (.ref pe)]) _
    exact kt
  have f9 := (fc_13.other W4 (Ne.symm ne_a0_pe))
  obtain ⟨cl10, Ar10, qq10, S10, M10, H10, GG10⟩ := id f9
  have hin10 : ¬ ((1 : Int32) < 0 ∨ cl10.slots.size ≤ ((1 : Int32)).toNatClampNeg) := inb_of S10 ⟨by decide, by decide⟩
  obtain ⟨T11, h11, X11, e11, W11, st11⟩ := stI X7 hx hZ e7 Ar10 (j := (1 : Int32)) hin10 (g := (mkF m 20 #[.val (.ref a0), .val (.int p1), .val (.ref a2), .val (.ref a3), .val (.int (1 : Int32))] [(.int p1), (.int (1 : Int32)), (.ref pe)])) rfl rfl (hb hby d4_20)
  have K11 : own_K p e below G0 T11 (mkF m 21 #[.val (.ref a0), .val (.int p1), .val (.ref a2), .val (.ref a3), .val (.int (1 : Int32))] []) := fun t kt => K8 t (st11 _ kt)
  have Z11 : n0 ≤ h11.size := Nat.le_trans Z4 (Keep.of_wr W11).1
  have VL11 : Arv Z h11 pe ke .int (3 : Int32) [le0, (.int p1), le2] (.int (0 : Int32)) := Arv.set Ar10 qq10 S10 M10 H10 GG10 rfl W11 1 rfl (Nat.le_of_ble_eq_true rfl)
  have N11 := Fr.snoc X11 N4 fg_4
  have K12 : own_K p e below G0 T11 (mkF m 22 #[.val (.ref a0), .val (.int p1), .val (.ref a2), .val (.ref a3), .val (.int (1 : Int32))] [(.ref a0)]) := by
    intro t kt
    refine K11 t ?_
    refine XS.aloadN X11.here hx rfl (hb hby d4_21) rfl rfl ?_
    show own_S p e below T11 (mkF m 22 _ [(.ref a0)]) _
    exact kt
  have f13 := ((fc_8.other W4 (Or.inr (slot_ne (Or.inr (hw _ (List.mem_of_getElem? (i := 35) rfl))) (Or.inl (hw _ (List.mem_of_getElem? (i := 44) rfl))) (by decide) (t := (.array (.array .int))) (t' := .int) (by decide) (by decide)))).other W11 (Or.inl ne_a0_pe))
  obtain ⟨T14, X14, e14, st14⟩ := getF X11 hx hZ hown (host := "") (Or.inl (hw _ (List.mem_of_getElem? (i := 34) rfl))) Via.refl e11 f13 (g := (mkF m 22 #[.val (.ref a0), .val (.int p1), .val (.ref a2), .val (.ref a3), .val (.int (1 : Int32))] [(.ref a0)])) rfl rfl (hb hby d4_22)
  have K14 : own_K p e below G0 T14 (mkF m 25 #[.val (.ref a0), .val (.int p1), .val (.ref a2), .val (.ref a3), .val (.int (1 : Int32))] [(.ref pu)]) := fun t kt => K12 t (st14 _ kt)
  have K15 : own_K p e below G0 T14 (mkF m 28 #[.val (.ref a0), .val (.int p1), .val (.ref a2), .val (.ref a3), .val (.int (1 : Int32))] [(.ref a2), (.int (1 : Int32)), (.ref pu)]) := by
    intro t kt
    refine K14 t ?_
    refine XS.iload X14.here hx rfl (hb hby d4_25) rfl ?_
    show own_S p e below T14 (mkF m 27 _ [(.int (1 : Int32)), (.ref pu)]) _
    refine XS.aloadN X14.here hx rfl (hb hby d4_27) rfl rfl ?_
    show own_S p e below T14 (mkF m 28 _ [(.ref a2), (.int (1 : Int32)), (.ref pu)]) _
    exact kt
  have f16 := ((fc_14.other W4 (Ne.symm ne_a0_pu)).other W11 (Ne.symm ne_pe_pu))
  obtain ⟨cl17, Ar17, qq17, S17, M17, H17, GG17⟩ := id f16
  have hin17 : ¬ ((1 : Int32) < 0 ∨ cl17.slots.size ≤ ((1 : Int32)).toNatClampNeg) := inb_of S17 ⟨by decide, by decide⟩
  have f18 := ((E2.wr W4).wr W11)
  obtain ⟨T19, h19, X19, e19, W19, st19⟩ := stR X14 hx hZ e14 Ar17 (j := (1 : Int32)) hin17 rfl (Sto.ofVA Ar17 qq17 ov_2 (Ins.self f18)) (g := (mkF m 28 #[.val (.ref a0), .val (.int p1), .val (.ref a2), .val (.ref a3), .val (.int (1 : Int32))] [(.ref a2), (.int (1 : Int32)), (.ref pu)])) rfl rfl (hb hby d4_28)
  have K19 : own_K p e below G0 T19 (mkF m 29 #[.val (.ref a0), .val (.int p1), .val (.ref a2), .val (.ref a3), .val (.int (1 : Int32))] []) := fun t kt => K15 t (st19 _ kt)
  have Z19 : n0 ≤ h19.size := Nat.le_trans Z11 (Keep.of_wr W19).1
  have VL19 : Arv Z h19 pu ku (.array .int) (3 : Int32) [lu0, (.ref a2), lu2] .null := Arv.set Ar17 qq17 S17 M17 H17 GG17 rfl W19 1 rfl (Nat.le_of_ble_eq_true rfl)
  have N19 := Fr.snoc X19 N11 fg_5
  have K20 : own_K p e below G0 T19 (mkF m 30 #[.val (.ref a0), .val (.int p1), .val (.ref a2), .val (.ref a3), .val (.int (1 : Int32))] [(.ref a0)]) := by
    intro t kt
    refine K19 t ?_
    refine XS.aloadN X19.here hx rfl (hb hby d4_29) rfl rfl ?_
    show own_S p e below T19 (mkF m 30 _ [(.ref a0)]) _
    exact kt
  have f21 := (((fc_9.other W4 (Or.inr (slot_ne (Or.inr (hw _ (List.mem_of_getElem? (i := 37) rfl))) (Or.inl (hw _ (List.mem_of_getElem? (i := 44) rfl))) (by decide) (t := (.array (.array .double))) (t' := .int) (by decide) (by decide)))).other W11 (Or.inl ne_a0_pe)).other W19 (Or.inl ne_a0_pu))
  obtain ⟨T22, X22, e22, st22⟩ := getF X19 hx hZ hown (host := "") (Or.inl (hw _ (List.mem_of_getElem? (i := 36) rfl))) Via.refl e19 f21 (g := (mkF m 30 #[.val (.ref a0), .val (.int p1), .val (.ref a2), .val (.ref a3), .val (.int (1 : Int32))] [(.ref a0)])) rfl rfl (hb hby d4_30)
  have K22 : own_K p e below G0 T22 (mkF m 33 #[.val (.ref a0), .val (.int p1), .val (.ref a2), .val (.ref a3), .val (.int (1 : Int32))] [(.ref pc)]) := fun t kt => K20 t (st22 _ kt)
  have K23 : own_K p e below G0 T22 (mkF m 36 #[.val (.ref a0), .val (.int p1), .val (.ref a2), .val (.ref a3), .val (.int (1 : Int32))] [(.ref a3), (.int (1 : Int32)), (.ref pc)]) := by
    intro t kt
    refine K22 t ?_
    refine XS.iload X22.here hx rfl (hb hby d4_33) rfl ?_
    show own_S p e below T22 (mkF m 35 _ [(.int (1 : Int32)), (.ref pc)]) _
    refine XS.aloadN X22.here hx rfl (hb hby d4_35) rfl rfl ?_
    show own_S p e below T22 (mkF m 36 _ [(.ref a3), (.int (1 : Int32)), (.ref pc)]) _
    exact kt
  have f24 := (((fc_15.other W4 (Ne.symm ne_a0_pc)).other W11 (Ne.symm ne_pe_pc)).other W19 (Ne.symm ne_pu_pc))
  obtain ⟨cl25, Ar25, qq25, S25, M25, H25, GG25⟩ := id f24
  have hin25 : ¬ ((1 : Int32) < 0 ∨ cl25.slots.size ≤ ((1 : Int32)).toNatClampNeg) := inb_of S25 ⟨by decide, by decide⟩
  have f26 := (((E3.wr W4).wr W11).wr W19)
  obtain ⟨T27, h27, X27, e27, W27, st27⟩ := stR X22 hx hZ e22 Ar25 (j := (1 : Int32)) hin25 rfl (Sto.ofVA Ar25 qq25 ov_3 (Ins.self f26)) (g := (mkF m 36 #[.val (.ref a0), .val (.int p1), .val (.ref a2), .val (.ref a3), .val (.int (1 : Int32))] [(.ref a3), (.int (1 : Int32)), (.ref pc)])) rfl rfl (hb hby d4_36)
  have K27 : own_K p e below G0 T27 (mkF m 37 #[.val (.ref a0), .val (.int p1), .val (.ref a2), .val (.ref a3), .val (.int (1 : Int32))] []) := fun t kt => K23 t (st27 _ kt)
  have Z27 : n0 ≤ h27.size := Nat.le_trans Z19 (Keep.of_wr W27).1
  have VL27 : Arv Z h27 pc kc (.array .double) (3 : Int32) [lc0, (.ref a3), lc2] .null := Arv.set Ar25 qq25 S25 M25 H25 GG25 rfl W27 1 rfl (Nat.le_of_ble_eq_true rfl)
  have N27 := Fr.snoc X27 N19 fg_6
  have K28 : own_K p e below G0 T27 (mkF m 39 #[.val (.ref a0), .val (.int p1), .val (.ref a2), .val (.ref a3), .val (.int (1 : Int32))] [(.int (1 : Int32))]) := by
    intro t kt
    refine K27 t ?_
    refine XS.iload X27.here hx rfl (hb hby d4_37) rfl ?_
    show own_S p e below T27 (mkF m 39 _ [(.int (1 : Int32))]) _
    exact kt
  have KQ29_0 := Keep.refl h0 [a0, pe, pu, pc]
  have KQ29_1 := KQ29_0.wr W4 (Or.inl (List.mem_of_getElem? (i := 0) rfl))
  have KQ29_2 := KQ29_1.wr W11 (Or.inl (List.mem_of_getElem? (i := 1) rfl))
  have KQ29_3 := KQ29_2.wr W19 (Or.inl (List.mem_of_getElem? (i := 2) rfl))
  have KQ29_4 := KQ29_3.wr W27 (Or.inl (List.mem_of_getElem? (i := 3) rfl))
  have f30 := ((((fc_0.wr W4).wr W11).wr W19).wr W27)
  have f31 := ((((fc_1.other W4 (Or.inr (slot_ne (Or.inr (hw _ (List.mem_of_getElem? (i := 15) rfl))) (Or.inl (hw _ (List.mem_of_getElem? (i := 44) rfl))) (by decide) (t := .int) (t' := .int) (by decide) (by decide)))).other W11 (Or.inl ne_a0_pe)).other W19 (Or.inl ne_a0_pu)).other W27 (Or.inl ne_a0_pc))
  have f32 := (((Fw4.other W11 (Or.inl ne_a0_pe)).other W19 (Or.inl ne_a0_pu)).other W27 (Or.inl ne_a0_pc))
  have f33 := ((((fc_3.other W4 (Or.inr (slot_ne (Or.inl (hw _ (List.mem_of_getElem? (i := 52) rfl))) (Or.inl (hw _ (List.mem_of_getElem? (i := 44) rfl))) (by decide) (t := .long) (t' := .int) (by decide) (by decide)))).other W11 (Or.inl ne_a0_pe)).other W19 (Or.inl ne_a0_pu)).other W27 (Or.inl ne_a0_pc))
  have f34 := ((((fc_4.other W4 (Or.inr (slot_ne (Or.inr (hw _ (List.mem_of_getElem? (i := 21) rfl))) (Or.inl (hw _ (List.mem_of_getElem? (i := 44) rfl))) (by decide) (t := (.array (.array .int))) (t' := .int) (by decide) (by decide)))).other W11 (Or.inl ne_a0_pe)).other W19 (Or.inl ne_a0_pu)).other W27 (Or.inl ne_a0_pc))
  have f35 := ((((fc_5.other W4 (Or.inr (slot_ne (Or.inr (hw _ (List.mem_of_getElem? (i := 25) rfl))) (Or.inl (hw _ (List.mem_of_getElem? (i := 44) rfl))) (by decide) (t := (.array (.array .double))) (t' := .int) (by decide) (by decide)))).other W11 (Or.inl ne_a0_pe)).other W19 (Or.inl ne_a0_pu)).other W27 (Or.inl ne_a0_pc))
  have f36 := ((((fc_6.other W4 (Or.inr (slot_ne (Or.inr (hw _ (List.mem_of_getElem? (i := 27) rfl))) (Or.inl (hw _ (List.mem_of_getElem? (i := 44) rfl))) (by decide) (t := (.array .int)) (t' := .int) (by decide) (by decide)))).other W11 (Or.inl ne_a0_pe)).other W19 (Or.inl ne_a0_pu)).other W27 (Or.inl ne_a0_pc))
  have f37 := (((f6.other W11 (Or.inl ne_a0_pe)).other W19 (Or.inl ne_a0_pu)).other W27 (Or.inl ne_a0_pc))
  have f38 := ((f13.other W19 (Or.inl ne_a0_pu)).other W27 (Or.inl ne_a0_pc))
  have f39 := (f21.other W27 (Or.inl ne_a0_pc))
  have f40 := ((((fc_10.other W4 (Ne.symm ne_a0_rb)).other W11 ne_rb_pe).other W19 ne_rb_pu).other W27 ne_rb_pc)
  have f41 := ((((fc_11.other W4 (Ne.symm ne_a0_ml)).other W11 ne_ml_pe).other W19 ne_ml_pu).other W27 ne_ml_pc)
  have f42 := ((((fc_12.other W4 (Ne.symm ne_a0_ln)).other W11 ne_ln_pe).other W19 ne_ln_pu).other W27 ne_ln_pc)
  have f43 := ((VL11.other W19 ne_pe_pu).other W27 ne_pe_pc)
  have f44 := (VL19.other W27 ne_pu_pc)
  obtain ⟨fs, hr, hrun, hended, hW, hsame⟩ := X27.leave (v := some (.int (1 : Int32))) (fun h => by rw [Bd.returns] at h; cases h)
  refine ⟨_, _, ?_, hrun, hended, _, _, rfl, ?_, ⟨_, rfl⟩, hW, hsame.mono (by decide) (by decide)⟩
  · rw [← hG0]
    refine K28 _ ?_
    exact retOut X27 hx (t := .int) Bd.returns rfl (Or.inl ⟨rfl, Or.inl rfl, _, rfl⟩) (hb hby d4_39) hr
  · show Q4_1 Z a0 p1 a2 a3 rb ml ln pe pu pc kr km kl ke ku kc rd lrb lml lln le0 le1 le2 lu0 lu1 lu2 lc0 lc1 lc2 h0 n0 _ T27.heap _
    rw [e27]
    exact ⟨rfl, N27, KQ29_4, ⟨f30, f31, f32, f33, f34, f35, f36, f37, f38, f39, f40, f41, f42, f43, f44, VL27⟩⟩
theorem d5_0 : decode prog_18_method_3_code 0 = .ok (.aload_n 0, 1) := by decide +kernel
theorem d5_1 : decode prog_18_method_3_code 1 = .ok (.getfield 29, 3) := by decide +kernel
theorem d5_4 : decode prog_18_method_3_code 4 = .ok (.iload_n 1, 1) := by decide +kernel
theorem d5_5 : decode prog_18_method_3_code 5 = .ok (.iaload, 1) := by decide +kernel
theorem d5_6 : decode prog_18_method_3_code 6 = .ok (.istore 5, 2) := by decide +kernel
theorem d5_8 : decode prog_18_method_3_code 8 = .ok (.aload_n 0, 1) := by decide +kernel
theorem d5_9 : decode prog_18_method_3_code 9 = .ok (.getfield 19, 3) := by decide +kernel
theorem d5_12 : decode prog_18_method_3_code 12 = .ok (.iload_n 1, 1) := by decide +kernel
theorem d5_13 : decode prog_18_method_3_code 13 = .ok (.aaload, 1) := by decide +kernel
theorem d5_14 : decode prog_18_method_3_code 14 = .ok (.ifnonnull 24, 3) := by decide +kernel
theorem d5_17 : decode prog_18_method_3_code 17 = .ok (.aload_n 0, 1) := by decide +kernel
theorem d5_18 : decode prog_18_method_3_code 18 = .ok (.getfield 19, 3) := by decide +kernel
theorem d5_21 : decode prog_18_method_3_code 21 = .ok (.iload_n 1, 1) := by decide +kernel
theorem d5_22 : decode prog_18_method_3_code 22 = .ok (.iconst 4, 1) := by decide +kernel
theorem d5_23 : decode prog_18_method_3_code 23 = .ok (.newarray .int, 2) := by decide +kernel
theorem d5_25 : decode prog_18_method_3_code 25 = .ok (.aastore, 1) := by decide +kernel
theorem d5_26 : decode prog_18_method_3_code 26 = .ok (.aload_n 0, 1) := by decide +kernel
theorem d5_27 : decode prog_18_method_3_code 27 = .ok (.getfield 25, 3) := by decide +kernel
theorem d5_30 : decode prog_18_method_3_code 30 = .ok (.iload_n 1, 1) := by decide +kernel
theorem d5_31 : decode prog_18_method_3_code 31 = .ok (.iconst 4, 1) := by decide +kernel
theorem d5_32 : decode prog_18_method_3_code 32 = .ok (.newarray .double, 2) := by decide +kernel
theorem d5_34 : decode prog_18_method_3_code 34 = .ok (.aastore, 1) := by decide +kernel
theorem d5_35 : decode prog_18_method_3_code 35 = .ok (.goto 53, 3) := by decide +kernel
theorem d5_38 : decode prog_18_method_3_code 38 = .ok (.iload 5, 2) := by decide +kernel
theorem d5_40 : decode prog_18_method_3_code 40 = .ok (.aload_n 0, 1) := by decide +kernel
theorem d5_41 : decode prog_18_method_3_code 41 = .ok (.getfield 19, 3) := by decide +kernel
theorem d5_44 : decode prog_18_method_3_code 44 = .ok (.iload_n 1, 1) := by decide +kernel
theorem d5_45 : decode prog_18_method_3_code 45 = .ok (.aaload, 1) := by decide +kernel
theorem d5_46 : decode prog_18_method_3_code 46 = .ok (.arraylength, 1) := by decide +kernel
theorem d5_47 : decode prog_18_method_3_code 47 = .ok (.if_icmp .ne 41, 3) := by decide +kernel
theorem d5_50 : decode prog_18_method_3_code 50 = .ok (.aload_n 0, 1) := by decide +kernel
theorem d5_51 : decode prog_18_method_3_code 51 = .ok (.getfield 19, 3) := by decide +kernel
theorem d5_54 : decode prog_18_method_3_code 54 = .ok (.iload_n 1, 1) := by decide +kernel
theorem d5_55 : decode prog_18_method_3_code 55 = .ok (.aload_n 0, 1) := by decide +kernel
theorem d5_56 : decode prog_18_method_3_code 56 = .ok (.getfield 19, 3) := by decide +kernel
theorem d5_59 : decode prog_18_method_3_code 59 = .ok (.iload_n 1, 1) := by decide +kernel
theorem d5_60 : decode prog_18_method_3_code 60 = .ok (.aaload, 1) := by decide +kernel
theorem d5_61 : decode prog_18_method_3_code 61 = .ok (.iconst 2, 1) := by decide +kernel
theorem d5_62 : decode prog_18_method_3_code 62 = .ok (.iload 5, 2) := by decide +kernel
theorem d5_64 : decode prog_18_method_3_code 64 = .ok (.imul, 1) := by decide +kernel
theorem d5_65 : decode prog_18_method_3_code 65 = .ok (.invokestatic 50, 3) := by decide +kernel
theorem d5_68 : decode prog_18_method_3_code 68 = .ok (.aastore, 1) := by decide +kernel
theorem d5_69 : decode prog_18_method_3_code 69 = .ok (.aload_n 0, 1) := by decide +kernel
theorem d5_70 : decode prog_18_method_3_code 70 = .ok (.getfield 25, 3) := by decide +kernel
theorem d5_73 : decode prog_18_method_3_code 73 = .ok (.iload_n 1, 1) := by decide +kernel
theorem d5_74 : decode prog_18_method_3_code 74 = .ok (.aload_n 0, 1) := by decide +kernel
theorem d5_75 : decode prog_18_method_3_code 75 = .ok (.getfield 25, 3) := by decide +kernel
theorem d5_78 : decode prog_18_method_3_code 78 = .ok (.iload_n 1, 1) := by decide +kernel
theorem d5_79 : decode prog_18_method_3_code 79 = .ok (.aaload, 1) := by decide +kernel
theorem d5_80 : decode prog_18_method_3_code 80 = .ok (.iconst 2, 1) := by decide +kernel
theorem d5_81 : decode prog_18_method_3_code 81 = .ok (.iload 5, 2) := by decide +kernel
theorem d5_83 : decode prog_18_method_3_code 83 = .ok (.imul, 1) := by decide +kernel
theorem d5_84 : decode prog_18_method_3_code 84 = .ok (.invokestatic 56, 3) := by decide +kernel
theorem d5_87 : decode prog_18_method_3_code 87 = .ok (.aastore, 1) := by decide +kernel
theorem d5_88 : decode prog_18_method_3_code 88 = .ok (.aload_n 0, 1) := by decide +kernel
theorem d5_89 : decode prog_18_method_3_code 89 = .ok (.getfield 19, 3) := by decide +kernel
theorem d5_92 : decode prog_18_method_3_code 92 = .ok (.iload_n 1, 1) := by decide +kernel
theorem d5_93 : decode prog_18_method_3_code 93 = .ok (.aaload, 1) := by decide +kernel
theorem d5_94 : decode prog_18_method_3_code 94 = .ok (.iload 5, 2) := by decide +kernel
theorem d5_96 : decode prog_18_method_3_code 96 = .ok (.iload_n 2, 1) := by decide +kernel
theorem d5_97 : decode prog_18_method_3_code 97 = .ok (.iastore, 1) := by decide +kernel
theorem d5_98 : decode prog_18_method_3_code 98 = .ok (.aload_n 0, 1) := by decide +kernel
theorem d5_99 : decode prog_18_method_3_code 99 = .ok (.getfield 25, 3) := by decide +kernel
theorem d5_102 : decode prog_18_method_3_code 102 = .ok (.iload_n 1, 1) := by decide +kernel
theorem d5_103 : decode prog_18_method_3_code 103 = .ok (.aaload, 1) := by decide +kernel
theorem d5_104 : decode prog_18_method_3_code 104 = .ok (.iload 5, 2) := by decide +kernel
theorem d5_106 : decode prog_18_method_3_code 106 = .ok (.dload_n 3, 1) := by decide +kernel
theorem d5_107 : decode prog_18_method_3_code 107 = .ok (.dastore, 1) := by decide +kernel
theorem d5_108 : decode prog_18_method_3_code 108 = .ok (.aload_n 0, 1) := by decide +kernel
theorem d5_109 : decode prog_18_method_3_code 109 = .ok (.getfield 29, 3) := by decide +kernel
theorem d5_112 : decode prog_18_method_3_code 112 = .ok (.iload_n 1, 1) := by decide +kernel
theorem d5_113 : decode prog_18_method_3_code 113 = .ok (.dup2, 1) := by decide +kernel
theorem d5_114 : decode prog_18_method_3_code 114 = .ok (.iaload, 1) := by decide +kernel
theorem d5_115 : decode prog_18_method_3_code 115 = .ok (.iconst 1, 1) := by decide +kernel
theorem d5_116 : decode prog_18_method_3_code 116 = .ok (.iadd, 1) := by decide +kernel
theorem d5_117 : decode prog_18_method_3_code 117 = .ok (.iastore, 1) := by decide +kernel
theorem d5_118 : decode prog_18_method_3_code 118 = .ok (.aload_n 0, 1) := by decide +kernel
theorem d5_119 : decode prog_18_method_3_code 119 = .ok (.dup, 1) := by decide +kernel
theorem d5_120 : decode prog_18_method_3_code 120 = .ok (.getfield 59, 3) := by decide +kernel
theorem d5_123 : decode prog_18_method_3_code 123 = .ok (.lconst 1, 1) := by decide +kernel
theorem d5_124 : decode prog_18_method_3_code 124 = .ok (.ladd, 1) := by decide +kernel
theorem d5_125 : decode prog_18_method_3_code 125 = .ok (.putfield 59, 3) := by decide +kernel
theorem d5_128 : decode prog_18_method_3_code 128 = .ok (.return_, 1) := by decide +kernel
theorem ef_rm5_1 (m : MethodId) (a0 : Addr) (p1 : Int32) (p2 : Int32) (r3 : UInt64) : entryFrame m #[(.ref a0), (.int p1), (.int p2), (.double r3)] 6 = (mkF m 0 #[.val (.ref a0), .val (.int p1), .val (.int p2), .val (.double r3), .second, .unset] []) := by first | (simp [entryFrame, mkF, argsToLocals, Value.category]; done) | rfl
def Q5_1 (Z : State) (a0 : Addr) (p1 : Int32) (p2 : Int32) (r3 : UInt64) (rb : Addr) (ml : Addr) (ln : Addr) (pe : Addr) (pu : Addr) (pc : Addr) (kr : ClassId) (km : ClassId) (kl : ClassId) (ke : ClassId) (ku : ClassId) (kc : ClassId) (rd : Int64) (cnt : Int32) (fr : Int32 → Value) (fm : Int32 → Value) (fl : Int32 → Value) (lpe : List Value) (lpu : List Value) (lpc : List Value) (h0 : Heap) (n0 : Nat) (v : Option Value) (h : Heap) (L : List Loc) : Prop := v = none ∧ Fr n0 L ∧ Keep h0 h [a0, rb, ml, ln] ∧ ∃ (q1 q2 : Addr) (k1 k2 : ClassId), own_Fac Z h a0 rb ml ln pe pu pc kr km kl ke ku kc (3 : Int32) cnt (rd + (1 : Int64)) (own_l3 (own_u p1 (.ref q1) fr)) (own_l3 (own_u p1 (.ref q2) fm)) (own_l3 (own_u p1 (.int (1 : Int32)) fl)) lpe lpu lpc ∧ Arv Z h q1 k1 .int (4 : Int32) [(.int p2), (.int (0 : Int32)), (.int (0 : Int32)), (.int (0 : Int32))] (.int (0 : Int32)) ∧ Arv Z h q2 k2 .double (4 : Int32) [(.double r3), (.double 0), (.double 0), (.double 0)] (.double 0) ∧ h0.size ≤ q1 ∧ h0.size ≤ q2 ∧ n0 ≤ q1 ∧ n0 ≤ q2 ∧ q1 ≠ q2
set_option maxRecDepth 65536 in
set_option maxHeartbeats 40000000 in
theorem rm5_1 (l : Launch) (Z : State) (aa : Array Value) (hw : ∀ d ∈ tables_1, d.before aa Z = true) (ws : List Jvm.Cond) (a0 : Addr) (p1 : Int32) (p2 : Int32) (r3 : UInt64) (rb : Addr) (ml : Addr) (ln : Addr) (pe : Addr) (pu : Addr) (pc : Addr) (kr : ClassId) (km : ClassId) (kl : ClassId) (ke : ClassId) (ku : ClassId) (kc : ClassId) (rd : Int64) (cnt : Int32) (fr : Int32 → Value) (fm : Int32 → Value) (fl : Int32 → Value) (lpe : List Value) (lpu : List Value) (lpc : List Value) (h0 : Heap) (n0 : Nat) (Z0 : n0 ≤ h0.size) (SP : own_Sep Z n0 a0 rb ml ln pe pu pc kr km ku kc) (FA : own_Fac Z h0 a0 rb ml ln pe pu pc kr km kl ke ku kc (3 : Int32) cnt rd (own_l3 fr) (own_l3 fm) (own_l3 fl) lpe lpu lpc) (hR : own_R p1) (hn : fr p1 = .null) (hl : fl p1 = (.int (0 : Int32))) :
    MetFree l (⟨"com/example/sondage/sondage/inference/Factorization", "reduced", "(IID)V"⟩ : MethodName) (head1 (Jvm.Cond.code (⟨"com/example/sondage/sondage/inference/Factorization", "reduced", "(IID)V"⟩ : MethodName) prog_18_method_3_code 6 none :: ws) ({ frames := 0, cells := 2, slots := 8, locals := 0 } : Room)) (fun a U => a = #[(.ref a0), (.int p1), (.int p2), (.double r3)] ∧ Z.Warmed39 U.vm ∧ U.heap = h0) (fun _ _ _ _ _ => True) (fun _ U o U' => ∃ v L, o = .returned v ∧ Q5_1 Z a0 p1 p2 r3 rb ml ln pe pu pc kr km kl ke ku kc rd cnt fr fm fl lpe lpu lpc h0 n0 v U'.heap L ∧ FrameEnd U o U' L ({ frames := 0, cells := 2, slots := 8, locals := 0 } : Room).cells ({ frames := 0, cells := 2, slots := 8, locals := 0 } : Room).slots) := by
  refine MetFree.of_bodySF (plainFor_of_name pn_com_example_sondage_sondage_inference_Factorization) hisR ?_
  intro p e s m args below meth c s₁ Bd hml0 hP hK
  obtain ⟨rfl, hZ, hh⟩ := hP
  have hx := Bd.exec
  have hby := Bd.bytes
  have hml : c.maxLocals = 6 := hml0
  have hown : s.vm.findClass "com/example/sondage/sondage/inference/Factorization" = some m.cls := findClass_of_methodNamed Bd.named
  have hnm := (name_of_methodNamed Bd.named Bd.method).1
  have X0 : Stand p l e ({ frames := 0, cells := 2, slots := 8, locals := 0 } : Room) s m #[(.ref a0), (.int p1), (.int p2), (.double r3)] below meth c s₁ [] 0 0 := Stand.of_body Bd
  have e0 : s₁.heap = h0 := by rw [← hh, Bd.state]; rfl
  have N0 := Fr.nil n0
  obtain ⟨G0, hG0⟩ : ∃ G, G = s₁.setTop (entryFrame m #[(.ref a0), (.int p1), (.int p2), (.double r3)] 6) := ⟨_, rfl⟩
  have K0 : own_K p e below G0 s₁ (mkF m 0 #[.val (.ref a0), .val (.int p1), .val (.int p2), .val (.double r3), .second, .unset] []) := fun t k => by rw [hG0]; exact castTop (ef_rm5_1 m a0 p1 p2 r3) k
  obtain ⟨fc_0, fc_1, fc_2, fc_3, fc_4, fc_5, fc_6, fc_7, fc_8, fc_9, fc_10, fc_11, fc_12, fc_13, fc_14, fc_15⟩ := id FA
  obtain ⟨fg_0, fg_1, fg_2, fg_3, fg_4, fg_5, fg_6, ne_a0_rb, ne_a0_ml, ne_a0_ln, ne_a0_pe, ne_a0_pu, ne_a0_pc, ne_rb_ml, ne_rb_ln, ne_rb_pe, ne_rb_pu, ne_rb_pc, ne_ml_ln, ne_ml_pe, ne_ml_pu, ne_ml_pc, ne_ln_pe, ne_ln_pu, ne_ln_pc, ne_pe_pu, ne_pe_pc, ne_pu_pc, ov_0, ov_1, ov_2, ov_3⟩ := id SP
  have K1 : own_K p e below G0 s₁ (mkF m 1 #[.val (.ref a0), .val (.int p1), .val (.int p2), .val (.double r3), .second, .unset] [(.ref a0)]) := by
    intro t kt
    refine K0 t ?_
    refine XS.aloadN X0.here hx rfl (hb hby d5_0) rfl rfl ?_
    show own_S p e below s₁ (mkF m 1 _ [(.ref a0)]) _
    exact kt
  obtain ⟨T2, X2, e2, st2⟩ := getF X0 hx hZ hown (host := "") (Or.inl (hw _ (List.mem_of_getElem? (i := 26) rfl))) Via.refl e0 fc_6 (g := (mkF m 1 #[.val (.ref a0), .val (.int p1), .val (.int p2), .val (.double r3), .second, .unset] [(.ref a0)])) rfl rfl (hb hby d5_1)
  have K2 : own_K p e below G0 T2 (mkF m 4 #[.val (.ref a0), .val (.int p1), .val (.int p2), .val (.double r3), .second, .unset] [(.ref ln)]) := fun t kt => K1 t (st2 _ kt)
  have K3 : own_K p e below G0 T2 (mkF m 5 #[.val (.ref a0), .val (.int p1), .val (.int p2), .val (.double r3), .second, .unset] [(.int p1), (.ref ln)]) := by
    intro t kt
    refine K2 t ?_
    refine XS.iloadN X2.here hx rfl (hb hby d5_4) rfl ?_
    show own_S p e below T2 (mkF m 5 _ [(.int p1), (.ref ln)]) _
    exact kt
  obtain ⟨cl4, Ar4, qq4, S4, M4, H4, GG4⟩ := id fc_12
  have hin4 := inb_of S4 (own_in3 hR)
  have hat4 : cl4.slots[(p1).toNatClampNeg]? = some (.int (0 : Int32)) := Has.at H4 hin4 ((own_g3 hR).trans hl)
  have K5 : own_K p e below G0 T2 (mkF m 9 #[.val (.ref a0), .val (.int p1), .val (.int p2), .val (.double r3), .second, .val (.int (0 : Int32))] [(.ref a0)]) := by
    intro t kt
    refine K3 t ?_
    refine X2.iaload hx (j := p1) (v := (.int (0 : Int32))) (by rw [e2]; exact (Ar4).1) (State.isArrayOf_alike hZ.alike (Ar4).2.1) (Ar4).2.2 hin4 hat4 (g := (mkF m 5 #[.val (.ref a0), .val (.int p1), .val (.int p2), .val (.double r3), .second, .unset] [(.int p1), (.ref ln)])) rfl rfl (hb hby d5_5) _ ?_
    show own_S p e below T2 (mkF m 6 _ [(.int (0 : Int32))]) _
    refine XS.istore X2.here hx rfl (hb hby d5_6) rfl (l' := #[.val (.ref a0), .val (.int p1), .val (.int p2), .val (.double r3), .second, .val (.int (0 : Int32))]) rfl ?_
    show own_S p e below T2 (mkF m 8 _ []) _
    refine XS.aloadN X2.here hx rfl (hb hby d5_8) rfl rfl ?_
    show own_S p e below T2 (mkF m 9 _ [(.ref a0)]) _
    exact kt
  obtain ⟨T6, X6, e6, st6⟩ := getF X2 hx hZ hown (host := "") (Or.inl (hw _ (List.mem_of_getElem? (i := 20) rfl))) Via.refl e2 fc_4 (g := (mkF m 9 #[.val (.ref a0), .val (.int p1), .val (.int p2), .val (.double r3), .second, .val (.int (0 : Int32))] [(.ref a0)])) rfl rfl (hb hby d5_9)
  have K6 : own_K p e below G0 T6 (mkF m 12 #[.val (.ref a0), .val (.int p1), .val (.int p2), .val (.double r3), .second, .val (.int (0 : Int32))] [(.ref rb)]) := fun t kt => K5 t (st6 _ kt)
  have K7 : own_K p e below G0 T6 (mkF m 13 #[.val (.ref a0), .val (.int p1), .val (.int p2), .val (.double r3), .second, .val (.int (0 : Int32))] [(.int p1), (.ref rb)]) := by
    intro t kt
    refine K6 t ?_
    refine XS.iloadN X6.here hx rfl (hb hby d5_12) rfl ?_
    show own_S p e below T6 (mkF m 13 _ [(.int p1), (.ref rb)]) _
    exact kt
  obtain ⟨cl8, Ar8, qq8, S8, M8, H8, GG8⟩ := id fc_10
  have hin8 := inb_of S8 (own_in3 hR)
  have hat8 : cl8.slots[(p1).toNatClampNeg]? = some .null := Has.at H8 hin8 ((own_g3 hR).trans hn)
  have K9 : own_K p e below G0 T6 (mkF m 18 #[.val (.ref a0), .val (.int p1), .val (.int p2), .val (.double r3), .second, .val (.int (0 : Int32))] [(.ref a0)]) := by
    intro t kt
    refine K7 t ?_
    refine X6.aaload hx (j := p1) (v := .null) (by rw [e6]; exact (Ar8).1) (State.isArrayOf_alike hZ.alike (Ar8).2.1) rfl (Ar8).2.2 hin8 hat8 (g := (mkF m 13 #[.val (.ref a0), .val (.int p1), .val (.int p2), .val (.double r3), .second, .val (.int (0 : Int32))] [(.int p1), (.ref rb)])) rfl rfl (hb hby d5_13) _ ?_
    show own_S p e below T6 (mkF m 14 _ [.null]) _
    refine XS.ifnonnullNo X6.here hx rfl (hb hby d5_14) rfl ?_
    show own_S p e below T6 (mkF m 17 _ []) _
    refine XS.aloadN X6.here hx rfl (hb hby d5_17) rfl rfl ?_
    show own_S p e below T6 (mkF m 18 _ [(.ref a0)]) _
    exact kt
  obtain ⟨T10, X10, e10, st10⟩ := getF X6 hx hZ hown (host := "") (Or.inl (hw _ (List.mem_of_getElem? (i := 20) rfl))) Via.refl e6 fc_4 (g := (mkF m 18 #[.val (.ref a0), .val (.int p1), .val (.int p2), .val (.double r3), .second, .val (.int (0 : Int32))] [(.ref a0)])) rfl rfl (hb hby d5_18)
  have K10 : own_K p e below G0 T10 (mkF m 21 #[.val (.ref a0), .val (.int p1), .val (.int p2), .val (.double r3), .second, .val (.int (0 : Int32))] [(.ref rb)]) := fun t kt => K9 t (st10 _ kt)
  have K11 : own_K p e below G0 T10 (mkF m 23 #[.val (.ref a0), .val (.int p1), .val (.int p2), .val (.double r3), .second, .val (.int (0 : Int32))] [(.int (4 : Int32)), (.int p1), (.ref rb)]) := by
    intro t kt
    refine K10 t ?_
    refine XS.iloadN X10.here hx rfl (hb hby d5_21) rfl ?_
    show own_S p e below T10 (mkF m 22 _ [(.int p1), (.ref rb)]) _
    refine XS.iconst X10.here hx rfl (hb hby d5_22) ?_
    show own_S p e below T10 (mkF m 23 _ [(.int (4 : Int32)), (.int p1), (.ref rb)]) _
    exact kt
  obtain ⟨T12, h12, k12, X12, e12, E12, A12, EA12, st12⟩ := newPE X10 hx hZ (hw _ (List.mem_of_getElem? (i := 2) rfl)) e10 (g := (mkF m 23 #[.val (.ref a0), .val (.int p1), .val (.int p2), .val (.double r3), .second, .val (.int (0 : Int32))] [(.int (4 : Int32)), (.int p1), (.ref rb)])) rfl (hb hby d5_23) rfl (by decide) (cap := 4) (by decide) (by decide) (by decide) (by decide) (ad := "[I") (by decide)
  obtain ⟨b12, g12⟩ : ∃ z, z = h0.size := ⟨_, rfl⟩
  rw [← g12] at A12 EA12 st12
  have V12 := Arv.new A12 (by decide)
  have gn12 : n0 ≤ b12 := Nat.le_trans Z0 (Nat.le_of_eq g12.symm)
  have Z12 : n0 ≤ h12.size := Nat.le_trans Z0 E12.1
  have K12 : own_K p e below G0 T12 (mkF m 25 #[.val (.ref a0), .val (.int p1), .val (.int p2), .val (.double r3), .second, .val (.int (0 : Int32))] [(.ref b12), (.int p1), (.ref rb)]) := fun t kt => K11 t (st12 _ kt)
  have ne_a0_b12 : a0 ≠ b12 := Nat.ne_of_lt (Nat.lt_of_lt_of_le (fc_0).lt (Nat.le_of_eq g12.symm))
  have ne_rb_b12 : rb ≠ b12 := Nat.ne_of_lt (Nat.lt_of_lt_of_le (fc_10).lt (Nat.le_of_eq g12.symm))
  have ne_ml_b12 : ml ≠ b12 := Nat.ne_of_lt (Nat.lt_of_lt_of_le (fc_11).lt (Nat.le_of_eq g12.symm))
  have ne_ln_b12 : ln ≠ b12 := Nat.ne_of_lt (Nat.lt_of_lt_of_le (fc_12).lt (Nat.le_of_eq g12.symm))
  have ne_pe_b12 : pe ≠ b12 := Nat.ne_of_lt (Nat.lt_of_lt_of_le (fc_13).lt (Nat.le_of_eq g12.symm))
  have ne_pu_b12 : pu ≠ b12 := Nat.ne_of_lt (Nat.lt_of_lt_of_le (fc_14).lt (Nat.le_of_eq g12.symm))
  have ne_pc_b12 : pc ≠ b12 := Nat.ne_of_lt (Nat.lt_of_lt_of_le (fc_15).lt (Nat.le_of_eq g12.symm))
  have VL12 : Arv Z h12 b12 k12 .int (4 : Int32) [(.int (0 : Int32)), (.int (0 : Int32)), (.int (0 : Int32)), (.int (0 : Int32))] (.int (0 : Int32)) := V12.pad (pad_rep [] (.int (0 : Int32)) 4)
  have f13 := (fc_10.ext E12)
  obtain ⟨cl14, Ar14, qq14, S14, M14, H14, GG14⟩ := id f13
  have hin14 := inb_of S14 (own_in3 hR)
  obtain ⟨T15, h15, X15, e15, W15, st15⟩ := stR X12 hx hZ e12 Ar14 (j := p1) hin14 rfl (Sto.ofVA Ar14 qq14 ov_0 (Ins.self EA12)) (g := (mkF m 25 #[.val (.ref a0), .val (.int p1), .val (.int p2), .val (.double r3), .second, .val (.int (0 : Int32))] [(.ref b12), (.int p1), (.ref rb)])) rfl rfl (hb hby d5_25)
  have K15 : own_K p e below G0 T15 (mkF m 26 #[.val (.ref a0), .val (.int p1), .val (.int p2), .val (.double r3), .second, .val (.int (0 : Int32))] []) := fun t kt => K12 t (st15 _ kt)
  have Z15 : n0 ≤ h15.size := Nat.le_trans Z12 (Keep.of_wr W15).1
  have VL15 : Arv Z h15 rb kr (.array .int) (3 : Int32) (own_l3 (own_u p1 (.ref b12) fr)) .null := by
    rw [← own_s3 hR]
    exact Arv.set Ar14 qq14 S14 M14 H14 GG14 rfl W15 (p1).toNatClampNeg rfl (own_n3 hR)
  have N15 := Fr.snoc X15 N0 fg_1
  have K16 : own_K p e below G0 T15 (mkF m 27 #[.val (.ref a0), .val (.int p1), .val (.int p2), .val (.double r3), .second, .val (.int (0 : Int32))] [(.ref a0)]) := by
    intro t kt
    refine K15 t ?_
    refine XS.aloadN X15.here hx rfl (hb hby d5_26) rfl rfl ?_
    show own_S p e below T15 (mkF m 27 _ [(.ref a0)]) _
    exact kt
  have f17 := ((fc_5.ext E12).other W15 (Or.inl ne_a0_rb))
  obtain ⟨T18, X18, e18, st18⟩ := getF X15 hx hZ hown (host := "") (Or.inl (hw _ (List.mem_of_getElem? (i := 24) rfl))) Via.refl e15 f17 (g := (mkF m 27 #[.val (.ref a0), .val (.int p1), .val (.int p2), .val (.double r3), .second, .val (.int (0 : Int32))] [(.ref a0)])) rfl rfl (hb hby d5_27)
  have K18 : own_K p e below G0 T18 (mkF m 30 #[.val (.ref a0), .val (.int p1), .val (.int p2), .val (.double r3), .second, .val (.int (0 : Int32))] [(.ref ml)]) := fun t kt => K16 t (st18 _ kt)
  have K19 : own_K p e below G0 T18 (mkF m 32 #[.val (.ref a0), .val (.int p1), .val (.int p2), .val (.double r3), .second, .val (.int (0 : Int32))] [(.int (4 : Int32)), (.int p1), (.ref ml)]) := by
    intro t kt
    refine K18 t ?_
    refine XS.iloadN X18.here hx rfl (hb hby d5_30) rfl ?_
    show own_S p e below T18 (mkF m 31 _ [(.int p1), (.ref ml)]) _
    refine XS.iconst X18.here hx rfl (hb hby d5_31) ?_
    show own_S p e below T18 (mkF m 32 _ [(.int (4 : Int32)), (.int p1), (.ref ml)]) _
    exact kt
  have f20 := ((fc_0.ext E12).wr W15)
  have f21 := ((fc_11.ext E12).other W15 (Ne.symm ne_rb_ml))
  have f22 := ((fc_12.ext E12).other W15 (Ne.symm ne_rb_ln))
  have f23 := ((fc_13.ext E12).other W15 (Ne.symm ne_rb_pe))
  have f24 := ((fc_14.ext E12).other W15 (Ne.symm ne_rb_pu))
  have f25 := ((fc_15.ext E12).other W15 (Ne.symm ne_rb_pc))
  have f26 := (VL12.other W15 (Ne.symm ne_rb_b12))
  obtain ⟨T27, h27, k27, X27, e27, E27, A27, EA27, st27⟩ := newPE X18 hx hZ (hw _ (List.mem_of_getElem? (i := 4) rfl)) e18 (g := (mkF m 32 #[.val (.ref a0), .val (.int p1), .val (.int p2), .val (.double r3), .second, .val (.int (0 : Int32))] [(.int (4 : Int32)), (.int p1), (.ref ml)])) rfl (hb hby d5_32) rfl (by decide) (cap := 4) (by decide) (by decide) (by decide) (by decide) (ad := "[D") (by decide)
  obtain ⟨b27, g27⟩ : ∃ z, z = h15.size := ⟨_, rfl⟩
  rw [← g27] at A27 EA27 st27
  have V27 := Arv.new A27 (by decide)
  have gn27 : n0 ≤ b27 := Nat.le_trans Z15 (Nat.le_of_eq g27.symm)
  have Z27 : n0 ≤ h27.size := Nat.le_trans Z15 E27.1
  have K27 : own_K p e below G0 T27 (mkF m 34 #[.val (.ref a0), .val (.int p1), .val (.int p2), .val (.double r3), .second, .val (.int (0 : Int32))] [(.ref b27), (.int p1), (.ref ml)]) := fun t kt => K19 t (st27 _ kt)
  have ne_a0_b27 : a0 ≠ b27 := Nat.ne_of_lt (Nat.lt_of_lt_of_le (f20).lt (Nat.le_of_eq g27.symm))
  have ne_rb_b27 : rb ≠ b27 := Nat.ne_of_lt (Nat.lt_of_lt_of_le (VL15).lt (Nat.le_of_eq g27.symm))
  have ne_ml_b27 : ml ≠ b27 := Nat.ne_of_lt (Nat.lt_of_lt_of_le (f21).lt (Nat.le_of_eq g27.symm))
  have ne_ln_b27 : ln ≠ b27 := Nat.ne_of_lt (Nat.lt_of_lt_of_le (f22).lt (Nat.le_of_eq g27.symm))
  have ne_pe_b27 : pe ≠ b27 := Nat.ne_of_lt (Nat.lt_of_lt_of_le (f23).lt (Nat.le_of_eq g27.symm))
  have ne_pu_b27 : pu ≠ b27 := Nat.ne_of_lt (Nat.lt_of_lt_of_le (f24).lt (Nat.le_of_eq g27.symm))
  have ne_pc_b27 : pc ≠ b27 := Nat.ne_of_lt (Nat.lt_of_lt_of_le (f25).lt (Nat.le_of_eq g27.symm))
  have ne_b12_b27 : b12 ≠ b27 := Nat.ne_of_lt (Nat.lt_of_lt_of_le (f26).lt (Nat.le_of_eq g27.symm))
  have VL27 : Arv Z h27 b27 k27 .double (4 : Int32) [(.double 0), (.double 0), (.double 0), (.double 0)] (.double 0) := V27.pad (pad_rep [] (.double 0) 4)
  have f28 := (f21.ext E27)
  obtain ⟨cl29, Ar29, qq29, S29, M29, H29, GG29⟩ := id f28
  have hin29 := inb_of S29 (own_in3 hR)
  obtain ⟨T30, h30, X30, e30, W30, st30⟩ := stR X27 hx hZ e27 Ar29 (j := p1) hin29 rfl (Sto.ofVA Ar29 qq29 ov_1 (Ins.self EA27)) (g := (mkF m 34 #[.val (.ref a0), .val (.int p1), .val (.int p2), .val (.double r3), .second, .val (.int (0 : Int32))] [(.ref b27), (.int p1), (.ref ml)])) rfl rfl (hb hby d5_34)
  have K30 : own_K p e below G0 T30 (mkF m 35 #[.val (.ref a0), .val (.int p1), .val (.int p2), .val (.double r3), .second, .val (.int (0 : Int32))] []) := fun t kt => K27 t (st30 _ kt)
  have Z30 : n0 ≤ h30.size := Nat.le_trans Z27 (Keep.of_wr W30).1
  have VL30 : Arv Z h30 ml km (.array .double) (3 : Int32) (own_l3 (own_u p1 (.ref b27) fm)) .null := by
    rw [← own_s3 hR]
    exact Arv.set Ar29 qq29 S29 M29 H29 GG29 rfl W30 (p1).toNatClampNeg rfl (own_n3 hR)
  have N30 := Fr.snoc X30 N15 fg_2
  have K31 : own_K p e below G0 T30 (mkF m 89 #[.val (.ref a0), .val (.int p1), .val (.int p2), .val (.double r3), .second, .val (.int (0 : Int32))] [(.ref a0)]) := by
    intro t kt
    refine K30 t ?_
    refine XS.goto X30.here hx rfl (pc0 := 35) (pc' := 88) rfl (hb hby d5_35) (by decide) (by decide) ?_
    show own_S p e below T30 (mkF m 88 _ []) _
    refine XS.aloadN X30.here hx rfl (hb hby d5_88) rfl rfl ?_
    show own_S p e below T30 (mkF m 89 _ [(.ref a0)]) _
    exact kt
  have f32 := ((((fc_4.ext E12).other W15 (Or.inl ne_a0_rb)).ext E27).other W30 (Or.inl ne_a0_ml))
  obtain ⟨T33, X33, e33, st33⟩ := getF X30 hx hZ hown (host := "") (Or.inl (hw _ (List.mem_of_getElem? (i := 20) rfl))) Via.refl e30 f32 (g := (mkF m 89 #[.val (.ref a0), .val (.int p1), .val (.int p2), .val (.double r3), .second, .val (.int (0 : Int32))] [(.ref a0)])) rfl rfl (hb hby d5_89)
  have K33 : own_K p e below G0 T33 (mkF m 92 #[.val (.ref a0), .val (.int p1), .val (.int p2), .val (.double r3), .second, .val (.int (0 : Int32))] [(.ref rb)]) := fun t kt => K31 t (st33 _ kt)
  have K34 : own_K p e below G0 T33 (mkF m 93 #[.val (.ref a0), .val (.int p1), .val (.int p2), .val (.double r3), .second, .val (.int (0 : Int32))] [(.int p1), (.ref rb)]) := by
    intro t kt
    refine K33 t ?_
    refine XS.iloadN X33.here hx rfl (hb hby d5_92) rfl ?_
    show own_S p e below T33 (mkF m 93 _ [(.int p1), (.ref rb)]) _
    exact kt
  have f35 := ((VL15.ext E27).other W30 ne_rb_ml)
  obtain ⟨cl36, Ar36, qq36, S36, M36, H36, GG36⟩ := id f35
  have hin36 := inb_of S36 (own_in3 hR)
  have hat36 : cl36.slots[(p1).toNatClampNeg]? = some (.ref b12) := Has.at H36 hin36 ((own_g3 hR).trans own_u1)
  have K37 : own_K p e below G0 T33 (mkF m 97 #[.val (.ref a0), .val (.int p1), .val (.int p2), .val (.double r3), .second, .val (.int (0 : Int32))] [(.int p2), (.int (0 : Int32)), (.ref b12)]) := by
    intro t kt
    refine K34 t ?_
    refine X33.aaload hx (j := p1) (v := (.ref b12)) (by rw [e33]; exact (Ar36).1) (State.isArrayOf_alike hZ.alike (Ar36).2.1) rfl (Ar36).2.2 hin36 hat36 (g := (mkF m 93 #[.val (.ref a0), .val (.int p1), .val (.int p2), .val (.double r3), .second, .val (.int (0 : Int32))] [(.int p1), (.ref rb)])) rfl rfl (hb hby d5_93) _ ?_
    show own_S p e below T33 (mkF m 94 _ [(.ref b12)]) _
    refine XS.iload X33.here hx rfl (hb hby d5_94) rfl ?_
    show own_S p e below T33 (mkF m 96 _ [(.int (0 : Int32)), (.ref b12)]) _
    refine XS.iloadN X33.here hx rfl (hb hby d5_96) rfl ?_
    show own_S p e below T33 (mkF m 97 _ [(.int p2), (.int (0 : Int32)), (.ref b12)]) _
    exact kt
  have f38 := ((f26.ext E27).other W30 (Ne.symm ne_ml_b12))
  obtain ⟨cl39, Ar39, qq39, S39, M39, H39, GG39⟩ := id f38
  have hin39 : ¬ ((0 : Int32) < 0 ∨ cl39.slots.size ≤ ((0 : Int32)).toNatClampNeg) := inb_of S39 ⟨by decide, by decide⟩
  obtain ⟨T40, h40, X40, e40, W40, st40⟩ := stI X33 hx hZ e33 Ar39 (j := (0 : Int32)) hin39 (g := (mkF m 97 #[.val (.ref a0), .val (.int p1), .val (.int p2), .val (.double r3), .second, .val (.int (0 : Int32))] [(.int p2), (.int (0 : Int32)), (.ref b12)])) rfl rfl (hb hby d5_97)
  have K40 : own_K p e below G0 T40 (mkF m 98 #[.val (.ref a0), .val (.int p1), .val (.int p2), .val (.double r3), .second, .val (.int (0 : Int32))] []) := fun t kt => K37 t (st40 _ kt)
  have Z40 : n0 ≤ h40.size := Nat.le_trans Z30 (Keep.of_wr W40).1
  have VL40 : Arv Z h40 b12 k12 .int (4 : Int32) [(.int p2), (.int (0 : Int32)), (.int (0 : Int32)), (.int (0 : Int32))] (.int (0 : Int32)) := Arv.set Ar39 qq39 S39 M39 H39 GG39 rfl W40 0 rfl (Nat.le_of_ble_eq_true rfl)
  have N40 := Fr.snoc X40 N30 gn12
  have K41 : own_K p e below G0 T40 (mkF m 99 #[.val (.ref a0), .val (.int p1), .val (.int p2), .val (.double r3), .second, .val (.int (0 : Int32))] [(.ref a0)]) := by
    intro t kt
    refine K40 t ?_
    refine XS.aloadN X40.here hx rfl (hb hby d5_98) rfl rfl ?_
    show own_S p e below T40 (mkF m 99 _ [(.ref a0)]) _
    exact kt
  have f42 := (((f17.ext E27).other W30 (Or.inl ne_a0_ml)).other W40 (Or.inl ne_a0_b12))
  obtain ⟨T43, X43, e43, st43⟩ := getF X40 hx hZ hown (host := "") (Or.inl (hw _ (List.mem_of_getElem? (i := 24) rfl))) Via.refl e40 f42 (g := (mkF m 99 #[.val (.ref a0), .val (.int p1), .val (.int p2), .val (.double r3), .second, .val (.int (0 : Int32))] [(.ref a0)])) rfl rfl (hb hby d5_99)
  have K43 : own_K p e below G0 T43 (mkF m 102 #[.val (.ref a0), .val (.int p1), .val (.int p2), .val (.double r3), .second, .val (.int (0 : Int32))] [(.ref ml)]) := fun t kt => K41 t (st43 _ kt)
  have K44 : own_K p e below G0 T43 (mkF m 103 #[.val (.ref a0), .val (.int p1), .val (.int p2), .val (.double r3), .second, .val (.int (0 : Int32))] [(.int p1), (.ref ml)]) := by
    intro t kt
    refine K43 t ?_
    refine XS.iloadN X43.here hx rfl (hb hby d5_102) rfl ?_
    show own_S p e below T43 (mkF m 103 _ [(.int p1), (.ref ml)]) _
    exact kt
  have f45 := (VL30.other W40 ne_ml_b12)
  obtain ⟨cl46, Ar46, qq46, S46, M46, H46, GG46⟩ := id f45
  have hin46 := inb_of S46 (own_in3 hR)
  have hat46 : cl46.slots[(p1).toNatClampNeg]? = some (.ref b27) := Has.at H46 hin46 ((own_g3 hR).trans own_u1)
  have K47 : own_K p e below G0 T43 (mkF m 107 #[.val (.ref a0), .val (.int p1), .val (.int p2), .val (.double r3), .second, .val (.int (0 : Int32))] [(.double r3), (.int (0 : Int32)), (.ref b27)]) := by
    intro t kt
    refine K44 t ?_
    refine X43.aaload hx (j := p1) (v := (.ref b27)) (by rw [e43]; exact (Ar46).1) (State.isArrayOf_alike hZ.alike (Ar46).2.1) rfl (Ar46).2.2 hin46 hat46 (g := (mkF m 103 #[.val (.ref a0), .val (.int p1), .val (.int p2), .val (.double r3), .second, .val (.int (0 : Int32))] [(.int p1), (.ref ml)])) rfl rfl (hb hby d5_103) _ ?_
    show own_S p e below T43 (mkF m 104 _ [(.ref b27)]) _
    refine XS.iload X43.here hx rfl (hb hby d5_104) rfl ?_
    show own_S p e below T43 (mkF m 106 _ [(.int (0 : Int32)), (.ref b27)]) _
    refine XS.dloadN X43.here hx rfl (hb hby d5_106) rfl ?_
    show own_S p e below T43 (mkF m 107 _ [(.double r3), (.int (0 : Int32)), (.ref b27)]) _
    exact kt
  have f48 := ((VL27.other W30 (Ne.symm ne_ml_b27)).other W40 (Ne.symm ne_b12_b27))
  obtain ⟨cl49, Ar49, qq49, S49, M49, H49, GG49⟩ := id f48
  have hin49 : ¬ ((0 : Int32) < 0 ∨ cl49.slots.size ≤ ((0 : Int32)).toNatClampNeg) := inb_of S49 ⟨by decide, by decide⟩
  obtain ⟨T50, h50, X50, e50, W50, st50⟩ := stD X43 hx hZ e43 Ar49 (j := (0 : Int32)) hin49 (g := (mkF m 107 #[.val (.ref a0), .val (.int p1), .val (.int p2), .val (.double r3), .second, .val (.int (0 : Int32))] [(.double r3), (.int (0 : Int32)), (.ref b27)])) rfl rfl (hb hby d5_107)
  have K50 : own_K p e below G0 T50 (mkF m 108 #[.val (.ref a0), .val (.int p1), .val (.int p2), .val (.double r3), .second, .val (.int (0 : Int32))] []) := fun t kt => K47 t (st50 _ kt)
  have Z50 : n0 ≤ h50.size := Nat.le_trans Z40 (Keep.of_wr W50).1
  have VL50 : Arv Z h50 b27 k27 .double (4 : Int32) [(.double r3), (.double 0), (.double 0), (.double 0)] (.double 0) := Arv.set Ar49 qq49 S49 M49 H49 GG49 rfl W50 0 rfl (Nat.le_of_ble_eq_true rfl)
  have N50 := Fr.snoc X50 N40 gn27
  have K51 : own_K p e below G0 T50 (mkF m 109 #[.val (.ref a0), .val (.int p1), .val (.int p2), .val (.double r3), .second, .val (.int (0 : Int32))] [(.ref a0)]) := by
    intro t kt
    refine K50 t ?_
    refine XS.aloadN X50.here hx rfl (hb hby d5_108) rfl rfl ?_
    show own_S p e below T50 (mkF m 109 _ [(.ref a0)]) _
    exact kt
  have f52 := ((((((fc_6.ext E12).other W15 (Or.inl ne_a0_rb)).ext E27).other W30 (Or.inl ne_a0_ml)).other W40 (Or.inl ne_a0_b12)).other W50 (Or.inl ne_a0_b27))
  obtain ⟨T53, X53, e53, st53⟩ := getF X50 hx hZ hown (host := "") (Or.inl (hw _ (List.mem_of_getElem? (i := 26) rfl))) Via.refl e50 f52 (g := (mkF m 109 #[.val (.ref a0), .val (.int p1), .val (.int p2), .val (.double r3), .second, .val (.int (0 : Int32))] [(.ref a0)])) rfl rfl (hb hby d5_109)
  have K53 : own_K p e below G0 T53 (mkF m 112 #[.val (.ref a0), .val (.int p1), .val (.int p2), .val (.double r3), .second, .val (.int (0 : Int32))] [(.ref ln)]) := fun t kt => K51 t (st53 _ kt)
  have K54 : own_K p e below G0 T53 (mkF m 114 #[.val (.ref a0), .val (.int p1), .val (.int p2), .val (.double r3), .second, .val (.int (0 : Int32))] [(.int p1), (.ref ln), (.int p1), (.ref ln)]) := by
    intro t kt
    refine K53 t ?_
    refine XS.iloadN X53.here hx rfl (hb hby d5_112) rfl ?_
    show own_S p e below T53 (mkF m 113 _ [(.int p1), (.ref ln)]) _
    refine XT.dup2 X53.here hx rfl (hb hby d5_113) rfl rfl rfl ?_
    show own_S p e below T53 (mkF m 114 _ [(.int p1), (.ref ln), (.int p1), (.ref ln)]) _
    exact kt
  have f55 := ((((f22.ext E27).other W30 (Ne.symm ne_ml_ln)).other W40 ne_ln_b12).other W50 ne_ln_b27)
  obtain ⟨cl56, Ar56, qq56, S56, M56, H56, GG56⟩ := id f55
  have hin56 := inb_of S56 (own_in3 hR)
  have hat56 : cl56.slots[(p1).toNatClampNeg]? = some (.int (0 : Int32)) := Has.at H56 hin56 ((own_g3 hR).trans hl)
  have K57 : own_K p e below G0 T53 (mkF m 117 #[.val (.ref a0), .val (.int p1), .val (.int p2), .val (.double r3), .second, .val (.int (0 : Int32))] [(.int ((0 : Int32) + (1 : Int32))), (.int p1), (.ref ln)]) := by
    intro t kt
    refine K54 t ?_
    refine X53.iaload hx (j := p1) (v := (.int (0 : Int32))) (by rw [e53]; exact (Ar56).1) (State.isArrayOf_alike hZ.alike (Ar56).2.1) (Ar56).2.2 hin56 hat56 (g := (mkF m 114 #[.val (.ref a0), .val (.int p1), .val (.int p2), .val (.double r3), .second, .val (.int (0 : Int32))] [(.int p1), (.ref ln), (.int p1), (.ref ln)])) rfl rfl (hb hby d5_114) _ ?_
    show own_S p e below T53 (mkF m 115 _ [(.int (0 : Int32)), (.int p1), (.ref ln)]) _
    refine XS.iconst X53.here hx rfl (hb hby d5_115) ?_
    show own_S p e below T53 (mkF m 116 _ [(.int (1 : Int32)), (.int (0 : Int32)), (.int p1), (.ref ln)]) _
    refine XS.iadd X53.here hx rfl (hb hby d5_116) rfl ?_
    show own_S p e below T53 (mkF m 117 _ [(.int ((0 : Int32) + (1 : Int32))), (.int p1), (.ref ln)]) _
    exact kt
  rw [show ((0 : Int32) + (1 : Int32)) = (1 : Int32) from by decide] at K57
  obtain ⟨cl58, Ar58, qq58, S58, M58, H58, GG58⟩ := id f55
  have hin58 := inb_of S58 (own_in3 hR)
  obtain ⟨T59, h59, X59, e59, W59, st59⟩ := stI X53 hx hZ e53 Ar58 (j := p1) hin58 (g := (mkF m 117 #[.val (.ref a0), .val (.int p1), .val (.int p2), .val (.double r3), .second, .val (.int (0 : Int32))] [(.int (1 : Int32)), (.int p1), (.ref ln)])) rfl rfl (hb hby d5_117)
  have K59 : own_K p e below G0 T59 (mkF m 118 #[.val (.ref a0), .val (.int p1), .val (.int p2), .val (.double r3), .second, .val (.int (0 : Int32))] []) := fun t kt => K57 t (st59 _ kt)
  have Z59 : n0 ≤ h59.size := Nat.le_trans Z50 (Keep.of_wr W59).1
  have VL59 : Arv Z h59 ln kl .int (3 : Int32) (own_l3 (own_u p1 (.int (1 : Int32)) fl)) (.int (0 : Int32)) := by
    rw [← own_s3 hR]
    exact Arv.set Ar58 qq58 S58 M58 H58 GG58 rfl W59 (p1).toNatClampNeg rfl (own_n3 hR)
  have N59 := Fr.snoc X59 N50 fg_3
  have K60 : own_K p e below G0 T59 (mkF m 120 #[.val (.ref a0), .val (.int p1), .val (.int p2), .val (.double r3), .second, .val (.int (0 : Int32))] [(.ref a0), (.ref a0)]) := by
    intro t kt
    refine K59 t ?_
    refine XS.aloadN X59.here hx rfl (hb hby d5_118) rfl rfl ?_
    show own_S p e below T59 (mkF m 119 _ [(.ref a0)]) _
    refine XS.dup X59.here hx rfl (hb hby d5_119) rfl rfl ?_
    show own_S p e below T59 (mkF m 120 _ [(.ref a0), (.ref a0)]) _
    exact kt
  have f61 := (((((((fc_3.ext E12).other W15 (Or.inl ne_a0_rb)).ext E27).other W30 (Or.inl ne_a0_ml)).other W40 (Or.inl ne_a0_b12)).other W50 (Or.inl ne_a0_b27)).other W59 (Or.inl ne_a0_ln))
  obtain ⟨T62, X62, e62, st62⟩ := getF X59 hx hZ hown (host := "") (Or.inl (hw _ (List.mem_of_getElem? (i := 51) rfl))) Via.refl e59 f61 (g := (mkF m 120 #[.val (.ref a0), .val (.int p1), .val (.int p2), .val (.double r3), .second, .val (.int (0 : Int32))] [(.ref a0), (.ref a0)])) rfl rfl (hb hby d5_120)
  have K62 : own_K p e below G0 T62 (mkF m 123 #[.val (.ref a0), .val (.int p1), .val (.int p2), .val (.double r3), .second, .val (.int (0 : Int32))] [(.long rd), (.ref a0)]) := fun t kt => K60 t (st62 _ kt)
  have K63 : own_K p e below G0 T62 (mkF m 125 #[.val (.ref a0), .val (.int p1), .val (.int p2), .val (.double r3), .second, .val (.int (0 : Int32))] [(.long (rd + (1 : Int64))), (.ref a0)]) := by
    intro t kt
    refine K62 t ?_
    refine XS.lconst X62.here hx rfl (hb hby d5_123) ?_
    show own_S p e below T62 (mkF m 124 _ [(.long (1 : Int64)), (.long rd), (.ref a0)]) _
    refine XS.ladd X62.here hx rfl (hb hby d5_124) rfl ?_
    show own_S p e below T62 (mkF m 125 _ [(.long (rd + (1 : Int64))), (.ref a0)]) _
    exact kt
  have f64 := (((((f20.ext E27).wr W30).wr W40).wr W50).wr W59)
  obtain ⟨T65, h65, X65, e65, W65, st65⟩ := putF X62 hx hZ hown (host := "") (Or.inl (hw _ (List.mem_of_getElem? (i := 51) rfl))) Via.refl e62 f61 f64 (Or.inl (hw _ (List.mem_of_getElem? (i := 52) rfl))) (hw _ (List.mem_of_getElem? (i := 6) rfl)) (ty := .long) (by decide) rfl rfl (g := (mkF m 125 #[.val (.ref a0), .val (.int p1), .val (.int p2), .val (.double r3), .second, .val (.int (0 : Int32))] [(.long (rd + (1 : Int64))), (.ref a0)])) rfl rfl (hb hby d5_125)
  have K65 : own_K p e below G0 T65 (mkF m 128 #[.val (.ref a0), .val (.int p1), .val (.int p2), .val (.double r3), .second, .val (.int (0 : Int32))] []) := fun t kt => K63 t (st65 _ kt)
  have Fw65 := (f61).same W65
  have N65 := Fr.snoc X65 N59 fg_0
  have Z65 : n0 ≤ h65.size := Nat.le_trans Z59 (Keep.of_wr W65).1
  have KQ66_0 := Keep.refl h0 [a0, rb, ml, ln]
  have sz66_12 := Nat.le_trans KQ66_0.1 (Nat.le_of_eq g12.symm)
  have KQ66_1 := KQ66_0.ext E12
  have KQ66_2 := KQ66_1.wr W15 (Or.inl (List.mem_of_getElem? (i := 1) rfl))
  have sz66_27 := Nat.le_trans KQ66_2.1 (Nat.le_of_eq g27.symm)
  have KQ66_3 := KQ66_2.ext E27
  have KQ66_4 := KQ66_3.wr W30 (Or.inl (List.mem_of_getElem? (i := 2) rfl))
  have KQ66_5 := KQ66_4.wr W40 (Or.inr sz66_12)
  have KQ66_6 := KQ66_5.wr W50 (Or.inr sz66_27)
  have KQ66_7 := KQ66_6.wr W59 (Or.inl (List.mem_of_getElem? (i := 3) rfl))
  have KQ66_8 := KQ66_7.wr W65 (Or.inl (List.mem_of_getElem? (i := 0) rfl))
  have f67 := (f64.wr W65)
  have f68 := ((((((((fc_1.ext E12).other W15 (Or.inl ne_a0_rb)).ext E27).other W30 (Or.inl ne_a0_ml)).other W40 (Or.inl ne_a0_b12)).other W50 (Or.inl ne_a0_b27)).other W59 (Or.inl ne_a0_ln)).other W65 (Or.inr (slot_ne (Or.inr (hw _ (List.mem_of_getElem? (i := 15) rfl))) (Or.inl (hw _ (List.mem_of_getElem? (i := 52) rfl))) (by decide) (t := .int) (t' := .long) (by decide) (by decide))))
  have f69 := ((((((((fc_2.ext E12).other W15 (Or.inl ne_a0_rb)).ext E27).other W30 (Or.inl ne_a0_ml)).other W40 (Or.inl ne_a0_b12)).other W50 (Or.inl ne_a0_b27)).other W59 (Or.inl ne_a0_ln)).other W65 (Or.inr (slot_ne (Or.inl (hw _ (List.mem_of_getElem? (i := 44) rfl))) (Or.inl (hw _ (List.mem_of_getElem? (i := 52) rfl))) (by decide) (t := .int) (t' := .long) (by decide) (by decide))))
  have f70 := ((((f32.other W40 (Or.inl ne_a0_b12)).other W50 (Or.inl ne_a0_b27)).other W59 (Or.inl ne_a0_ln)).other W65 (Or.inr (slot_ne (Or.inr (hw _ (List.mem_of_getElem? (i := 21) rfl))) (Or.inl (hw _ (List.mem_of_getElem? (i := 52) rfl))) (by decide) (t := (.array (.array .int))) (t' := .long) (by decide) (by decide))))
  have f71 := (((f42.other W50 (Or.inl ne_a0_b27)).other W59 (Or.inl ne_a0_ln)).other W65 (Or.inr (slot_ne (Or.inr (hw _ (List.mem_of_getElem? (i := 25) rfl))) (Or.inl (hw _ (List.mem_of_getElem? (i := 52) rfl))) (by decide) (t := (.array (.array .double))) (t' := .long) (by decide) (by decide))))
  have f72 := ((f52.other W59 (Or.inl ne_a0_ln)).other W65 (Or.inr (slot_ne (Or.inr (hw _ (List.mem_of_getElem? (i := 27) rfl))) (Or.inl (hw _ (List.mem_of_getElem? (i := 52) rfl))) (by decide) (t := (.array .int)) (t' := .long) (by decide) (by decide))))
  have f73 := ((((((((fc_7.ext E12).other W15 (Or.inl ne_a0_rb)).ext E27).other W30 (Or.inl ne_a0_ml)).other W40 (Or.inl ne_a0_b12)).other W50 (Or.inl ne_a0_b27)).other W59 (Or.inl ne_a0_ln)).other W65 (Or.inr (slot_ne (Or.inr (hw _ (List.mem_of_getElem? (i := 33) rfl))) (Or.inl (hw _ (List.mem_of_getElem? (i := 52) rfl))) (by decide) (t := (.array .int)) (t' := .long) (by decide) (by decide))))
  have f74 := ((((((((fc_8.ext E12).other W15 (Or.inl ne_a0_rb)).ext E27).other W30 (Or.inl ne_a0_ml)).other W40 (Or.inl ne_a0_b12)).other W50 (Or.inl ne_a0_b27)).other W59 (Or.inl ne_a0_ln)).other W65 (Or.inr (slot_ne (Or.inr (hw _ (List.mem_of_getElem? (i := 35) rfl))) (Or.inl (hw _ (List.mem_of_getElem? (i := 52) rfl))) (by decide) (t := (.array (.array .int))) (t' := .long) (by decide) (by decide))))
  have f75 := ((((((((fc_9.ext E12).other W15 (Or.inl ne_a0_rb)).ext E27).other W30 (Or.inl ne_a0_ml)).other W40 (Or.inl ne_a0_b12)).other W50 (Or.inl ne_a0_b27)).other W59 (Or.inl ne_a0_ln)).other W65 (Or.inr (slot_ne (Or.inr (hw _ (List.mem_of_getElem? (i := 37) rfl))) (Or.inl (hw _ (List.mem_of_getElem? (i := 52) rfl))) (by decide) (t := (.array (.array .double))) (t' := .long) (by decide) (by decide))))
  have f76 := ((((f35.other W40 ne_rb_b12).other W50 ne_rb_b27).other W59 ne_rb_ln).other W65 (Ne.symm ne_a0_rb))
  have f77 := (((f45.other W50 ne_ml_b27).other W59 ne_ml_ln).other W65 (Ne.symm ne_a0_ml))
  have f78 := (VL59.other W65 (Ne.symm ne_a0_ln))
  have f79 := ((((((f23.ext E27).other W30 (Ne.symm ne_ml_pe)).other W40 ne_pe_b12).other W50 ne_pe_b27).other W59 (Ne.symm ne_ln_pe)).other W65 (Ne.symm ne_a0_pe))
  have f80 := ((((((f24.ext E27).other W30 (Ne.symm ne_ml_pu)).other W40 ne_pu_b12).other W50 ne_pu_b27).other W59 (Ne.symm ne_ln_pu)).other W65 (Ne.symm ne_a0_pu))
  have f81 := ((((((f25.ext E27).other W30 (Ne.symm ne_ml_pc)).other W40 ne_pc_b12).other W50 ne_pc_b27).other W59 (Ne.symm ne_ln_pc)).other W65 (Ne.symm ne_a0_pc))
  have f82 := (((VL40.other W50 ne_b12_b27).other W59 (Ne.symm ne_ln_b12)).other W65 (Ne.symm ne_a0_b12))
  have f83 := ((VL50.other W59 (Ne.symm ne_ln_b27)).other W65 (Ne.symm ne_a0_b27))
  obtain ⟨fs, hr, hrun, hended, hW, hsame⟩ := X65.leave (v := none) (fun _ => rfl)
  refine ⟨_, _, ?_, hrun, hended, _, _, rfl, ?_, ⟨_, rfl⟩, hW, hsame.mono (by decide) (by decide)⟩
  · rw [← hG0]
    refine K65 _ ?_
    exact X65.returnOut hx Bd.returns (hb hby d5_128) hr
  · show Q5_1 Z a0 p1 p2 r3 rb ml ln pe pu pc kr km kl ke ku kc rd cnt fr fm fl lpe lpu lpc h0 n0 _ T65.heap _
    rw [e65]
    exact ⟨rfl, N65, KQ66_8, b12, b27, k12, k27, ⟨f67, f68, f69, Fw65, f70, f71, f72, f73, f74, f75, f76, f77, f78, f79, f80, f81⟩, f82, f83, sz66_12, sz66_27, gn12, gn27, ne_b12_b27⟩
theorem ef_rm5_2 (m : MethodId) (a0 : Addr) (p1 : Int32) (p2 : Int32) (r3 : UInt64) : entryFrame m #[(.ref a0), (.int p1), (.int p2), (.double r3)] 6 = (mkF m 0 #[.val (.ref a0), .val (.int p1), .val (.int p2), .val (.double r3), .second, .unset] []) := by first | (simp [entryFrame, mkF, argsToLocals, Value.category]; done) | rfl
def Q5_2 (Z : State) (a0 : Addr) (p1 : Int32) (p2 : Int32) (r3 : UInt64) (rb : Addr) (ml : Addr) (ln : Addr) (pe : Addr) (pu : Addr) (pc : Addr) (kr : ClassId) (km : ClassId) (kl : ClassId) (ke : ClassId) (ku : ClassId) (kc : ClassId) (rd : Int64) (cnt : Int32) (fr : Int32 → Value) (fm : Int32 → Value) (fl : Int32 → Value) (lpe : List Value) (lpu : List Value) (lpc : List Value) (q1 : Addr) (q2 : Addr) (k1 : ClassId) (k2 : ClassId) (y0 : Value) (y1 : Value) (y2 : Value) (y3 : Value) (t0 : Value) (t1 : Value) (t2 : Value) (t3 : Value) (h0 : Heap) (n0 : Nat) (v : Option Value) (h : Heap) (L : List Loc) : Prop := v = none ∧ Fr n0 L ∧ Keep h0 h [a0, ln, q1, q2] ∧ own_Fac Z h a0 rb ml ln pe pu pc kr km kl ke ku kc (3 : Int32) cnt (rd + (1 : Int64)) (own_l3 fr) (own_l3 fm) (own_l3 (own_u p1 (.int (2 : Int32)) fl)) lpe lpu lpc
set_option maxRecDepth 65536 in
set_option maxHeartbeats 40000000 in
theorem rm5_2 (l : Launch) (Z : State) (aa : Array Value) (hw : ∀ d ∈ tables_1, d.before aa Z = true) (ws : List Jvm.Cond) (a0 : Addr) (p1 : Int32) (p2 : Int32) (r3 : UInt64) (rb : Addr) (ml : Addr) (ln : Addr) (pe : Addr) (pu : Addr) (pc : Addr) (kr : ClassId) (km : ClassId) (kl : ClassId) (ke : ClassId) (ku : ClassId) (kc : ClassId) (rd : Int64) (cnt : Int32) (fr : Int32 → Value) (fm : Int32 → Value) (fl : Int32 → Value) (lpe : List Value) (lpu : List Value) (lpc : List Value) (q1 : Addr) (q2 : Addr) (k1 : ClassId) (k2 : ClassId) (y0 : Value) (y1 : Value) (y2 : Value) (y3 : Value) (t0 : Value) (t1 : Value) (t2 : Value) (t3 : Value) (h0 : Heap) (n0 : Nat) (Z0 : n0 ≤ h0.size) (SP : own_Sep Z n0 a0 rb ml ln pe pu pc kr km ku kc) (FA : own_Fac Z h0 a0 rb ml ln pe pu pc kr km kl ke ku kc (3 : Int32) cnt rd (own_l3 fr) (own_l3 fm) (own_l3 fl) lpe lpu lpc) (hR : own_R p1) (hn1 : fr p1 = .ref q1) (hn2 : fm p1 = .ref q2) (hl : fl p1 = (.int (1 : Int32))) (V_q1 : Arv Z h0 q1 k1 .int (4 : Int32) [y0, y1, y2, y3] (.int (0 : Int32))) (V_q2 : Arv Z h0 q2 k2 .double (4 : Int32) [t0, t1, t2, t3] (.double 0)) (gq1 : n0 ≤ q1) (gq2 : n0 ≤ q2) (ne_q1_q2 : q1 ≠ q2) (ne_a0_q1 : a0 ≠ q1) (ne_rb_q1 : rb ≠ q1) (ne_ml_q1 : ml ≠ q1) (ne_ln_q1 : ln ≠ q1) (ne_pe_q1 : pe ≠ q1) (ne_pu_q1 : pu ≠ q1) (ne_pc_q1 : pc ≠ q1) (ne_a0_q2 : a0 ≠ q2) (ne_rb_q2 : rb ≠ q2) (ne_ml_q2 : ml ≠ q2) (ne_ln_q2 : ln ≠ q2) (ne_pe_q2 : pe ≠ q2) (ne_pu_q2 : pu ≠ q2) (ne_pc_q2 : pc ≠ q2) :
    MetFree l (⟨"com/example/sondage/sondage/inference/Factorization", "reduced", "(IID)V"⟩ : MethodName) (head1 (Jvm.Cond.code (⟨"com/example/sondage/sondage/inference/Factorization", "reduced", "(IID)V"⟩ : MethodName) prog_18_method_3_code 6 none :: ws) ({ frames := 0, cells := 0, slots := 0, locals := 0 } : Room)) (fun a U => a = #[(.ref a0), (.int p1), (.int p2), (.double r3)] ∧ Z.Warmed39 U.vm ∧ U.heap = h0) (fun _ _ _ _ _ => True) (fun _ U o U' => ∃ v L, o = .returned v ∧ Q5_2 Z a0 p1 p2 r3 rb ml ln pe pu pc kr km kl ke ku kc rd cnt fr fm fl lpe lpu lpc q1 q2 k1 k2 y0 y1 y2 y3 t0 t1 t2 t3 h0 n0 v U'.heap L ∧ FrameEnd U o U' L ({ frames := 0, cells := 0, slots := 0, locals := 0 } : Room).cells ({ frames := 0, cells := 0, slots := 0, locals := 0 } : Room).slots) := by
  refine MetFree.of_bodySF (plainFor_of_name pn_com_example_sondage_sondage_inference_Factorization) hisR ?_
  intro p e s m args below meth c s₁ Bd hml0 hP hK
  obtain ⟨rfl, hZ, hh⟩ := hP
  have hx := Bd.exec
  have hby := Bd.bytes
  have hml : c.maxLocals = 6 := hml0
  have hown : s.vm.findClass "com/example/sondage/sondage/inference/Factorization" = some m.cls := findClass_of_methodNamed Bd.named
  have hnm := (name_of_methodNamed Bd.named Bd.method).1
  have X0 : Stand p l e ({ frames := 0, cells := 0, slots := 0, locals := 0 } : Room) s m #[(.ref a0), (.int p1), (.int p2), (.double r3)] below meth c s₁ [] 0 0 := Stand.of_body Bd
  have e0 : s₁.heap = h0 := by rw [← hh, Bd.state]; rfl
  have N0 := Fr.nil n0
  obtain ⟨G0, hG0⟩ : ∃ G, G = s₁.setTop (entryFrame m #[(.ref a0), (.int p1), (.int p2), (.double r3)] 6) := ⟨_, rfl⟩
  have K0 : own_K p e below G0 s₁ (mkF m 0 #[.val (.ref a0), .val (.int p1), .val (.int p2), .val (.double r3), .second, .unset] []) := fun t k => by rw [hG0]; exact castTop (ef_rm5_2 m a0 p1 p2 r3) k
  obtain ⟨fc_0, fc_1, fc_2, fc_3, fc_4, fc_5, fc_6, fc_7, fc_8, fc_9, fc_10, fc_11, fc_12, fc_13, fc_14, fc_15⟩ := id FA
  obtain ⟨fg_0, fg_1, fg_2, fg_3, fg_4, fg_5, fg_6, ne_a0_rb, ne_a0_ml, ne_a0_ln, ne_a0_pe, ne_a0_pu, ne_a0_pc, ne_rb_ml, ne_rb_ln, ne_rb_pe, ne_rb_pu, ne_rb_pc, ne_ml_ln, ne_ml_pe, ne_ml_pu, ne_ml_pc, ne_ln_pe, ne_ln_pu, ne_ln_pc, ne_pe_pu, ne_pe_pc, ne_pu_pc, ov_0, ov_1, ov_2, ov_3⟩ := id SP
  have K1 : own_K p e below G0 s₁ (mkF m 1 #[.val (.ref a0), .val (.int p1), .val (.int p2), .val (.double r3), .second, .unset] [(.ref a0)]) := by
    intro t kt
    refine K0 t ?_
    refine XS.aloadN X0.here hx rfl (hb hby d5_0) rfl rfl ?_
    show own_S p e below s₁ (mkF m 1 _ [(.ref a0)]) _
    exact kt
  obtain ⟨T2, X2, e2, st2⟩ := getF X0 hx hZ hown (host := "") (Or.inl (hw _ (List.mem_of_getElem? (i := 26) rfl))) Via.refl e0 fc_6 (g := (mkF m 1 #[.val (.ref a0), .val (.int p1), .val (.int p2), .val (.double r3), .second, .unset] [(.ref a0)])) rfl rfl (hb hby d5_1)
  have K2 : own_K p e below G0 T2 (mkF m 4 #[.val (.ref a0), .val (.int p1), .val (.int p2), .val (.double r3), .second, .unset] [(.ref ln)]) := fun t kt => K1 t (st2 _ kt)
  have K3 : own_K p e below G0 T2 (mkF m 5 #[.val (.ref a0), .val (.int p1), .val (.int p2), .val (.double r3), .second, .unset] [(.int p1), (.ref ln)]) := by
    intro t kt
    refine K2 t ?_
    refine XS.iloadN X2.here hx rfl (hb hby d5_4) rfl ?_
    show own_S p e below T2 (mkF m 5 _ [(.int p1), (.ref ln)]) _
    exact kt
  obtain ⟨cl4, Ar4, qq4, S4, M4, H4, GG4⟩ := id fc_12
  have hin4 := inb_of S4 (own_in3 hR)
  have hat4 : cl4.slots[(p1).toNatClampNeg]? = some (.int (1 : Int32)) := Has.at H4 hin4 ((own_g3 hR).trans hl)
  have K5 : own_K p e below G0 T2 (mkF m 9 #[.val (.ref a0), .val (.int p1), .val (.int p2), .val (.double r3), .second, .val (.int (1 : Int32))] [(.ref a0)]) := by
    intro t kt
    refine K3 t ?_
    refine X2.iaload hx (j := p1) (v := (.int (1 : Int32))) (by rw [e2]; exact (Ar4).1) (State.isArrayOf_alike hZ.alike (Ar4).2.1) (Ar4).2.2 hin4 hat4 (g := (mkF m 5 #[.val (.ref a0), .val (.int p1), .val (.int p2), .val (.double r3), .second, .unset] [(.int p1), (.ref ln)])) rfl rfl (hb hby d5_5) _ ?_
    show own_S p e below T2 (mkF m 6 _ [(.int (1 : Int32))]) _
    refine XS.istore X2.here hx rfl (hb hby d5_6) rfl (l' := #[.val (.ref a0), .val (.int p1), .val (.int p2), .val (.double r3), .second, .val (.int (1 : Int32))]) rfl ?_
    show own_S p e below T2 (mkF m 8 _ []) _
    refine XS.aloadN X2.here hx rfl (hb hby d5_8) rfl rfl ?_
    show own_S p e below T2 (mkF m 9 _ [(.ref a0)]) _
    exact kt
  obtain ⟨T6, X6, e6, st6⟩ := getF X2 hx hZ hown (host := "") (Or.inl (hw _ (List.mem_of_getElem? (i := 20) rfl))) Via.refl e2 fc_4 (g := (mkF m 9 #[.val (.ref a0), .val (.int p1), .val (.int p2), .val (.double r3), .second, .val (.int (1 : Int32))] [(.ref a0)])) rfl rfl (hb hby d5_9)
  have K6 : own_K p e below G0 T6 (mkF m 12 #[.val (.ref a0), .val (.int p1), .val (.int p2), .val (.double r3), .second, .val (.int (1 : Int32))] [(.ref rb)]) := fun t kt => K5 t (st6 _ kt)
  have K7 : own_K p e below G0 T6 (mkF m 13 #[.val (.ref a0), .val (.int p1), .val (.int p2), .val (.double r3), .second, .val (.int (1 : Int32))] [(.int p1), (.ref rb)]) := by
    intro t kt
    refine K6 t ?_
    refine XS.iloadN X6.here hx rfl (hb hby d5_12) rfl ?_
    show own_S p e below T6 (mkF m 13 _ [(.int p1), (.ref rb)]) _
    exact kt
  obtain ⟨cl8, Ar8, qq8, S8, M8, H8, GG8⟩ := id fc_10
  have hin8 := inb_of S8 (own_in3 hR)
  have hat8 : cl8.slots[(p1).toNatClampNeg]? = some (.ref q1) := Has.at H8 hin8 ((own_g3 hR).trans hn1)
  have K9 : own_K p e below G0 T6 (mkF m 41 #[.val (.ref a0), .val (.int p1), .val (.int p2), .val (.double r3), .second, .val (.int (1 : Int32))] [(.ref a0), (.int (1 : Int32))]) := by
    intro t kt
    refine K7 t ?_
    refine X6.aaload hx (j := p1) (v := (.ref q1)) (by rw [e6]; exact (Ar8).1) (State.isArrayOf_alike hZ.alike (Ar8).2.1) rfl (Ar8).2.2 hin8 hat8 (g := (mkF m 13 #[.val (.ref a0), .val (.int p1), .val (.int p2), .val (.double r3), .second, .val (.int (1 : Int32))] [(.int p1), (.ref rb)])) rfl rfl (hb hby d5_13) _ ?_
    show own_S p e below T6 (mkF m 14 _ [(.ref q1)]) _
    refine XS.ifnonnullYes X6.here hx rfl (pc0 := 14) (pc' := 38) rfl (hb hby d5_14) rfl (by decide) (by decide) ?_
    show own_S p e below T6 (mkF m 38 _ []) _
    refine XS.iload X6.here hx rfl (hb hby d5_38) rfl ?_
    show own_S p e below T6 (mkF m 40 _ [(.int (1 : Int32))]) _
    refine XS.aloadN X6.here hx rfl (hb hby d5_40) rfl rfl ?_
    show own_S p e below T6 (mkF m 41 _ [(.ref a0), (.int (1 : Int32))]) _
    exact kt
  obtain ⟨T10, X10, e10, st10⟩ := getF X6 hx hZ hown (host := "") (Or.inl (hw _ (List.mem_of_getElem? (i := 20) rfl))) Via.refl e6 fc_4 (g := (mkF m 41 #[.val (.ref a0), .val (.int p1), .val (.int p2), .val (.double r3), .second, .val (.int (1 : Int32))] [(.ref a0), (.int (1 : Int32))])) rfl rfl (hb hby d5_41)
  have K10 : own_K p e below G0 T10 (mkF m 44 #[.val (.ref a0), .val (.int p1), .val (.int p2), .val (.double r3), .second, .val (.int (1 : Int32))] [(.ref rb), (.int (1 : Int32))]) := fun t kt => K9 t (st10 _ kt)
  have K11 : own_K p e below G0 T10 (mkF m 45 #[.val (.ref a0), .val (.int p1), .val (.int p2), .val (.double r3), .second, .val (.int (1 : Int32))] [(.int p1), (.ref rb), (.int (1 : Int32))]) := by
    intro t kt
    refine K10 t ?_
    refine XS.iloadN X10.here hx rfl (hb hby d5_44) rfl ?_
    show own_S p e below T10 (mkF m 45 _ [(.int p1), (.ref rb), (.int (1 : Int32))]) _
    exact kt
  obtain ⟨cl12, Ar12, qq12, S12, M12, H12, GG12⟩ := id fc_10
  have hin12 := inb_of S12 (own_in3 hR)
  have hat12 : cl12.slots[(p1).toNatClampNeg]? = some (.ref q1) := Has.at H12 hin12 ((own_g3 hR).trans hn1)
  have K13 : own_K p e below G0 T10 (mkF m 46 #[.val (.ref a0), .val (.int p1), .val (.int p2), .val (.double r3), .second, .val (.int (1 : Int32))] [(.ref q1), (.int (1 : Int32))]) := by
    intro t kt
    refine K11 t ?_
    refine X10.aaload hx (j := p1) (v := (.ref q1)) (by rw [e10]; exact (Ar12).1) (State.isArrayOf_alike hZ.alike (Ar12).2.1) rfl (Ar12).2.2 hin12 hat12 (g := (mkF m 45 #[.val (.ref a0), .val (.int p1), .val (.int p2), .val (.double r3), .second, .val (.int (1 : Int32))] [(.int p1), (.ref rb), (.int (1 : Int32))])) rfl rfl (hb hby d5_45) _ ?_
    show own_S p e below T10 (mkF m 46 _ [(.ref q1), (.int (1 : Int32))]) _
    exact kt
  obtain ⟨cl14, Ar14, qq14, S14, M14, H14, GG14⟩ := id V_q1
  have K15 : own_K p e below G0 T10 (mkF m 89 #[.val (.ref a0), .val (.int p1), .val (.int p2), .val (.double r3), .second, .val (.int (1 : Int32))] [(.ref a0)]) := by
    intro t kt
    refine K13 t ?_
    refine X10.arraylength hx (by rw [e10]; exact (Ar14).1) (State.isArrayOf_alike hZ.alike (Ar14).2.1) (g := (mkF m 46 #[.val (.ref a0), .val (.int p1), .val (.int p2), .val (.double r3), .second, .val (.int (1 : Int32))] [(.ref q1), (.int (1 : Int32))])) rfl rfl (hb hby d5_46) _ ?_
    rw [len_of S14 M14]
    show own_S p e below T10 (mkF m 47 #[.val (.ref a0), .val (.int p1), .val (.int p2), .val (.double r3), .second, .val (.int (1 : Int32))] [(.int (4 : Int32)), (.int (1 : Int32))]) _
    refine XS.icmpYes X10.here hx rfl (pc0 := 47) (pc' := 88) rfl (hb hby d5_47) rfl (feq (by decide)).2 (by decide) (by decide) ?_
    show own_S p e below T10 (mkF m 88 _ []) _
    refine XS.aloadN X10.here hx rfl (hb hby d5_88) rfl rfl ?_
    show own_S p e below T10 (mkF m 89 _ [(.ref a0)]) _
    exact kt
  obtain ⟨T16, X16, e16, st16⟩ := getF X10 hx hZ hown (host := "") (Or.inl (hw _ (List.mem_of_getElem? (i := 20) rfl))) Via.refl e10 fc_4 (g := (mkF m 89 #[.val (.ref a0), .val (.int p1), .val (.int p2), .val (.double r3), .second, .val (.int (1 : Int32))] [(.ref a0)])) rfl rfl (hb hby d5_89)
  have K16 : own_K p e below G0 T16 (mkF m 92 #[.val (.ref a0), .val (.int p1), .val (.int p2), .val (.double r3), .second, .val (.int (1 : Int32))] [(.ref rb)]) := fun t kt => K15 t (st16 _ kt)
  have K17 : own_K p e below G0 T16 (mkF m 93 #[.val (.ref a0), .val (.int p1), .val (.int p2), .val (.double r3), .second, .val (.int (1 : Int32))] [(.int p1), (.ref rb)]) := by
    intro t kt
    refine K16 t ?_
    refine XS.iloadN X16.here hx rfl (hb hby d5_92) rfl ?_
    show own_S p e below T16 (mkF m 93 _ [(.int p1), (.ref rb)]) _
    exact kt
  obtain ⟨cl18, Ar18, qq18, S18, M18, H18, GG18⟩ := id fc_10
  have hin18 := inb_of S18 (own_in3 hR)
  have hat18 : cl18.slots[(p1).toNatClampNeg]? = some (.ref q1) := Has.at H18 hin18 ((own_g3 hR).trans hn1)
  have K19 : own_K p e below G0 T16 (mkF m 97 #[.val (.ref a0), .val (.int p1), .val (.int p2), .val (.double r3), .second, .val (.int (1 : Int32))] [(.int p2), (.int (1 : Int32)), (.ref q1)]) := by
    intro t kt
    refine K17 t ?_
    refine X16.aaload hx (j := p1) (v := (.ref q1)) (by rw [e16]; exact (Ar18).1) (State.isArrayOf_alike hZ.alike (Ar18).2.1) rfl (Ar18).2.2 hin18 hat18 (g := (mkF m 93 #[.val (.ref a0), .val (.int p1), .val (.int p2), .val (.double r3), .second, .val (.int (1 : Int32))] [(.int p1), (.ref rb)])) rfl rfl (hb hby d5_93) _ ?_
    show own_S p e below T16 (mkF m 94 _ [(.ref q1)]) _
    refine XS.iload X16.here hx rfl (hb hby d5_94) rfl ?_
    show own_S p e below T16 (mkF m 96 _ [(.int (1 : Int32)), (.ref q1)]) _
    refine XS.iloadN X16.here hx rfl (hb hby d5_96) rfl ?_
    show own_S p e below T16 (mkF m 97 _ [(.int p2), (.int (1 : Int32)), (.ref q1)]) _
    exact kt
  obtain ⟨cl20, Ar20, qq20, S20, M20, H20, GG20⟩ := id V_q1
  have hin20 : ¬ ((1 : Int32) < 0 ∨ cl20.slots.size ≤ ((1 : Int32)).toNatClampNeg) := inb_of S20 ⟨by decide, by decide⟩
  obtain ⟨T21, h21, X21, e21, W21, st21⟩ := stI X16 hx hZ e16 Ar20 (j := (1 : Int32)) hin20 (g := (mkF m 97 #[.val (.ref a0), .val (.int p1), .val (.int p2), .val (.double r3), .second, .val (.int (1 : Int32))] [(.int p2), (.int (1 : Int32)), (.ref q1)])) rfl rfl (hb hby d5_97)
  have K21 : own_K p e below G0 T21 (mkF m 98 #[.val (.ref a0), .val (.int p1), .val (.int p2), .val (.double r3), .second, .val (.int (1 : Int32))] []) := fun t kt => K19 t (st21 _ kt)
  have Z21 : n0 ≤ h21.size := Nat.le_trans Z0 (Keep.of_wr W21).1
  have VL21 : Arv Z h21 q1 k1 .int (4 : Int32) [y0, (.int p2), y2, y3] (.int (0 : Int32)) := Arv.set Ar20 qq20 S20 M20 H20 GG20 rfl W21 1 rfl (Nat.le_of_ble_eq_true rfl)
  have N21 := Fr.snoc X21 N0 gq1
  have K22 : own_K p e below G0 T21 (mkF m 99 #[.val (.ref a0), .val (.int p1), .val (.int p2), .val (.double r3), .second, .val (.int (1 : Int32))] [(.ref a0)]) := by
    intro t kt
    refine K21 t ?_
    refine XS.aloadN X21.here hx rfl (hb hby d5_98) rfl rfl ?_
    show own_S p e below T21 (mkF m 99 _ [(.ref a0)]) _
    exact kt
  have f23 := (fc_5.other W21 (Or.inl ne_a0_q1))
  obtain ⟨T24, X24, e24, st24⟩ := getF X21 hx hZ hown (host := "") (Or.inl (hw _ (List.mem_of_getElem? (i := 24) rfl))) Via.refl e21 f23 (g := (mkF m 99 #[.val (.ref a0), .val (.int p1), .val (.int p2), .val (.double r3), .second, .val (.int (1 : Int32))] [(.ref a0)])) rfl rfl (hb hby d5_99)
  have K24 : own_K p e below G0 T24 (mkF m 102 #[.val (.ref a0), .val (.int p1), .val (.int p2), .val (.double r3), .second, .val (.int (1 : Int32))] [(.ref ml)]) := fun t kt => K22 t (st24 _ kt)
  have K25 : own_K p e below G0 T24 (mkF m 103 #[.val (.ref a0), .val (.int p1), .val (.int p2), .val (.double r3), .second, .val (.int (1 : Int32))] [(.int p1), (.ref ml)]) := by
    intro t kt
    refine K24 t ?_
    refine XS.iloadN X24.here hx rfl (hb hby d5_102) rfl ?_
    show own_S p e below T24 (mkF m 103 _ [(.int p1), (.ref ml)]) _
    exact kt
  have f26 := (fc_11.other W21 ne_ml_q1)
  obtain ⟨cl27, Ar27, qq27, S27, M27, H27, GG27⟩ := id f26
  have hin27 := inb_of S27 (own_in3 hR)
  have hat27 : cl27.slots[(p1).toNatClampNeg]? = some (.ref q2) := Has.at H27 hin27 ((own_g3 hR).trans hn2)
  have K28 : own_K p e below G0 T24 (mkF m 107 #[.val (.ref a0), .val (.int p1), .val (.int p2), .val (.double r3), .second, .val (.int (1 : Int32))] [(.double r3), (.int (1 : Int32)), (.ref q2)]) := by
    intro t kt
    refine K25 t ?_
    refine X24.aaload hx (j := p1) (v := (.ref q2)) (by rw [e24]; exact (Ar27).1) (State.isArrayOf_alike hZ.alike (Ar27).2.1) rfl (Ar27).2.2 hin27 hat27 (g := (mkF m 103 #[.val (.ref a0), .val (.int p1), .val (.int p2), .val (.double r3), .second, .val (.int (1 : Int32))] [(.int p1), (.ref ml)])) rfl rfl (hb hby d5_103) _ ?_
    show own_S p e below T24 (mkF m 104 _ [(.ref q2)]) _
    refine XS.iload X24.here hx rfl (hb hby d5_104) rfl ?_
    show own_S p e below T24 (mkF m 106 _ [(.int (1 : Int32)), (.ref q2)]) _
    refine XS.dloadN X24.here hx rfl (hb hby d5_106) rfl ?_
    show own_S p e below T24 (mkF m 107 _ [(.double r3), (.int (1 : Int32)), (.ref q2)]) _
    exact kt
  have f29 := (V_q2.other W21 (Ne.symm ne_q1_q2))
  obtain ⟨cl30, Ar30, qq30, S30, M30, H30, GG30⟩ := id f29
  have hin30 : ¬ ((1 : Int32) < 0 ∨ cl30.slots.size ≤ ((1 : Int32)).toNatClampNeg) := inb_of S30 ⟨by decide, by decide⟩
  obtain ⟨T31, h31, X31, e31, W31, st31⟩ := stD X24 hx hZ e24 Ar30 (j := (1 : Int32)) hin30 (g := (mkF m 107 #[.val (.ref a0), .val (.int p1), .val (.int p2), .val (.double r3), .second, .val (.int (1 : Int32))] [(.double r3), (.int (1 : Int32)), (.ref q2)])) rfl rfl (hb hby d5_107)
  have K31 : own_K p e below G0 T31 (mkF m 108 #[.val (.ref a0), .val (.int p1), .val (.int p2), .val (.double r3), .second, .val (.int (1 : Int32))] []) := fun t kt => K28 t (st31 _ kt)
  have Z31 : n0 ≤ h31.size := Nat.le_trans Z21 (Keep.of_wr W31).1
  have VL31 : Arv Z h31 q2 k2 .double (4 : Int32) [t0, (.double r3), t2, t3] (.double 0) := Arv.set Ar30 qq30 S30 M30 H30 GG30 rfl W31 1 rfl (Nat.le_of_ble_eq_true rfl)
  have N31 := Fr.snoc X31 N21 gq2
  have K32 : own_K p e below G0 T31 (mkF m 109 #[.val (.ref a0), .val (.int p1), .val (.int p2), .val (.double r3), .second, .val (.int (1 : Int32))] [(.ref a0)]) := by
    intro t kt
    refine K31 t ?_
    refine XS.aloadN X31.here hx rfl (hb hby d5_108) rfl rfl ?_
    show own_S p e below T31 (mkF m 109 _ [(.ref a0)]) _
    exact kt
  have f33 := ((fc_6.other W21 (Or.inl ne_a0_q1)).other W31 (Or.inl ne_a0_q2))
  obtain ⟨T34, X34, e34, st34⟩ := getF X31 hx hZ hown (host := "") (Or.inl (hw _ (List.mem_of_getElem? (i := 26) rfl))) Via.refl e31 f33 (g := (mkF m 109 #[.val (.ref a0), .val (.int p1), .val (.int p2), .val (.double r3), .second, .val (.int (1 : Int32))] [(.ref a0)])) rfl rfl (hb hby d5_109)
  have K34 : own_K p e below G0 T34 (mkF m 112 #[.val (.ref a0), .val (.int p1), .val (.int p2), .val (.double r3), .second, .val (.int (1 : Int32))] [(.ref ln)]) := fun t kt => K32 t (st34 _ kt)
  have K35 : own_K p e below G0 T34 (mkF m 114 #[.val (.ref a0), .val (.int p1), .val (.int p2), .val (.double r3), .second, .val (.int (1 : Int32))] [(.int p1), (.ref ln), (.int p1), (.ref ln)]) := by
    intro t kt
    refine K34 t ?_
    refine XS.iloadN X34.here hx rfl (hb hby d5_112) rfl ?_
    show own_S p e below T34 (mkF m 113 _ [(.int p1), (.ref ln)]) _
    refine XT.dup2 X34.here hx rfl (hb hby d5_113) rfl rfl rfl ?_
    show own_S p e below T34 (mkF m 114 _ [(.int p1), (.ref ln), (.int p1), (.ref ln)]) _
    exact kt
  have f36 := ((fc_12.other W21 ne_ln_q1).other W31 ne_ln_q2)
  obtain ⟨cl37, Ar37, qq37, S37, M37, H37, GG37⟩ := id f36
  have hin37 := inb_of S37 (own_in3 hR)
  have hat37 : cl37.slots[(p1).toNatClampNeg]? = some (.int (1 : Int32)) := Has.at H37 hin37 ((own_g3 hR).trans hl)
  have K38 : own_K p e below G0 T34 (mkF m 117 #[.val (.ref a0), .val (.int p1), .val (.int p2), .val (.double r3), .second, .val (.int (1 : Int32))] [(.int ((1 : Int32) + (1 : Int32))), (.int p1), (.ref ln)]) := by
    intro t kt
    refine K35 t ?_
    refine X34.iaload hx (j := p1) (v := (.int (1 : Int32))) (by rw [e34]; exact (Ar37).1) (State.isArrayOf_alike hZ.alike (Ar37).2.1) (Ar37).2.2 hin37 hat37 (g := (mkF m 114 #[.val (.ref a0), .val (.int p1), .val (.int p2), .val (.double r3), .second, .val (.int (1 : Int32))] [(.int p1), (.ref ln), (.int p1), (.ref ln)])) rfl rfl (hb hby d5_114) _ ?_
    show own_S p e below T34 (mkF m 115 _ [(.int (1 : Int32)), (.int p1), (.ref ln)]) _
    refine XS.iconst X34.here hx rfl (hb hby d5_115) ?_
    show own_S p e below T34 (mkF m 116 _ [(.int (1 : Int32)), (.int (1 : Int32)), (.int p1), (.ref ln)]) _
    refine XS.iadd X34.here hx rfl (hb hby d5_116) rfl ?_
    show own_S p e below T34 (mkF m 117 _ [(.int ((1 : Int32) + (1 : Int32))), (.int p1), (.ref ln)]) _
    exact kt
  rw [show ((1 : Int32) + (1 : Int32)) = (2 : Int32) from by decide] at K38
  obtain ⟨cl39, Ar39, qq39, S39, M39, H39, GG39⟩ := id f36
  have hin39 := inb_of S39 (own_in3 hR)
  obtain ⟨T40, h40, X40, e40, W40, st40⟩ := stI X34 hx hZ e34 Ar39 (j := p1) hin39 (g := (mkF m 117 #[.val (.ref a0), .val (.int p1), .val (.int p2), .val (.double r3), .second, .val (.int (1 : Int32))] [(.int (2 : Int32)), (.int p1), (.ref ln)])) rfl rfl (hb hby d5_117)
  have K40 : own_K p e below G0 T40 (mkF m 118 #[.val (.ref a0), .val (.int p1), .val (.int p2), .val (.double r3), .second, .val (.int (1 : Int32))] []) := fun t kt => K38 t (st40 _ kt)
  have Z40 : n0 ≤ h40.size := Nat.le_trans Z31 (Keep.of_wr W40).1
  have VL40 : Arv Z h40 ln kl .int (3 : Int32) (own_l3 (own_u p1 (.int (2 : Int32)) fl)) (.int (0 : Int32)) := by
    rw [← own_s3 hR]
    exact Arv.set Ar39 qq39 S39 M39 H39 GG39 rfl W40 (p1).toNatClampNeg rfl (own_n3 hR)
  have N40 := Fr.snoc X40 N31 fg_3
  have K41 : own_K p e below G0 T40 (mkF m 120 #[.val (.ref a0), .val (.int p1), .val (.int p2), .val (.double r3), .second, .val (.int (1 : Int32))] [(.ref a0), (.ref a0)]) := by
    intro t kt
    refine K40 t ?_
    refine XS.aloadN X40.here hx rfl (hb hby d5_118) rfl rfl ?_
    show own_S p e below T40 (mkF m 119 _ [(.ref a0)]) _
    refine XS.dup X40.here hx rfl (hb hby d5_119) rfl rfl ?_
    show own_S p e below T40 (mkF m 120 _ [(.ref a0), (.ref a0)]) _
    exact kt
  have f42 := (((fc_3.other W21 (Or.inl ne_a0_q1)).other W31 (Or.inl ne_a0_q2)).other W40 (Or.inl ne_a0_ln))
  obtain ⟨T43, X43, e43, st43⟩ := getF X40 hx hZ hown (host := "") (Or.inl (hw _ (List.mem_of_getElem? (i := 51) rfl))) Via.refl e40 f42 (g := (mkF m 120 #[.val (.ref a0), .val (.int p1), .val (.int p2), .val (.double r3), .second, .val (.int (1 : Int32))] [(.ref a0), (.ref a0)])) rfl rfl (hb hby d5_120)
  have K43 : own_K p e below G0 T43 (mkF m 123 #[.val (.ref a0), .val (.int p1), .val (.int p2), .val (.double r3), .second, .val (.int (1 : Int32))] [(.long rd), (.ref a0)]) := fun t kt => K41 t (st43 _ kt)
  have K44 : own_K p e below G0 T43 (mkF m 125 #[.val (.ref a0), .val (.int p1), .val (.int p2), .val (.double r3), .second, .val (.int (1 : Int32))] [(.long (rd + (1 : Int64))), (.ref a0)]) := by
    intro t kt
    refine K43 t ?_
    refine XS.lconst X43.here hx rfl (hb hby d5_123) ?_
    show own_S p e below T43 (mkF m 124 _ [(.long (1 : Int64)), (.long rd), (.ref a0)]) _
    refine XS.ladd X43.here hx rfl (hb hby d5_124) rfl ?_
    show own_S p e below T43 (mkF m 125 _ [(.long (rd + (1 : Int64))), (.ref a0)]) _
    exact kt
  have f45 := (((fc_0.wr W21).wr W31).wr W40)
  obtain ⟨T46, h46, X46, e46, W46, st46⟩ := putF X43 hx hZ hown (host := "") (Or.inl (hw _ (List.mem_of_getElem? (i := 51) rfl))) Via.refl e43 f42 f45 (Or.inl (hw _ (List.mem_of_getElem? (i := 52) rfl))) (hw _ (List.mem_of_getElem? (i := 6) rfl)) (ty := .long) (by decide) rfl rfl (g := (mkF m 125 #[.val (.ref a0), .val (.int p1), .val (.int p2), .val (.double r3), .second, .val (.int (1 : Int32))] [(.long (rd + (1 : Int64))), (.ref a0)])) rfl rfl (hb hby d5_125)
  have K46 : own_K p e below G0 T46 (mkF m 128 #[.val (.ref a0), .val (.int p1), .val (.int p2), .val (.double r3), .second, .val (.int (1 : Int32))] []) := fun t kt => K44 t (st46 _ kt)
  have Fw46 := (f42).same W46
  have N46 := Fr.snoc X46 N40 fg_0
  have Z46 : n0 ≤ h46.size := Nat.le_trans Z40 (Keep.of_wr W46).1
  have KQ47_0 := Keep.refl h0 [a0, ln, q1, q2]
  have KQ47_1 := KQ47_0.wr W21 (Or.inl (List.mem_of_getElem? (i := 2) rfl))
  have KQ47_2 := KQ47_1.wr W31 (Or.inl (List.mem_of_getElem? (i := 3) rfl))
  have KQ47_3 := KQ47_2.wr W40 (Or.inl (List.mem_of_getElem? (i := 1) rfl))
  have KQ47_4 := KQ47_3.wr W46 (Or.inl (List.mem_of_getElem? (i := 0) rfl))
  have f48 := (f45.wr W46)
  have f49 := ((((fc_1.other W21 (Or.inl ne_a0_q1)).other W31 (Or.inl ne_a0_q2)).other W40 (Or.inl ne_a0_ln)).other W46 (Or.inr (slot_ne (Or.inr (hw _ (List.mem_of_getElem? (i := 15) rfl))) (Or.inl (hw _ (List.mem_of_getElem? (i := 52) rfl))) (by decide) (t := .int) (t' := .long) (by decide) (by decide))))
  have f50 := ((((fc_2.other W21 (Or.inl ne_a0_q1)).other W31 (Or.inl ne_a0_q2)).other W40 (Or.inl ne_a0_ln)).other W46 (Or.inr (slot_ne (Or.inl (hw _ (List.mem_of_getElem? (i := 44) rfl))) (Or.inl (hw _ (List.mem_of_getElem? (i := 52) rfl))) (by decide) (t := .int) (t' := .long) (by decide) (by decide))))
  have f51 := ((((fc_4.other W21 (Or.inl ne_a0_q1)).other W31 (Or.inl ne_a0_q2)).other W40 (Or.inl ne_a0_ln)).other W46 (Or.inr (slot_ne (Or.inr (hw _ (List.mem_of_getElem? (i := 21) rfl))) (Or.inl (hw _ (List.mem_of_getElem? (i := 52) rfl))) (by decide) (t := (.array (.array .int))) (t' := .long) (by decide) (by decide))))
  have f52 := (((f23.other W31 (Or.inl ne_a0_q2)).other W40 (Or.inl ne_a0_ln)).other W46 (Or.inr (slot_ne (Or.inr (hw _ (List.mem_of_getElem? (i := 25) rfl))) (Or.inl (hw _ (List.mem_of_getElem? (i := 52) rfl))) (by decide) (t := (.array (.array .double))) (t' := .long) (by decide) (by decide))))
  have f53 := ((f33.other W40 (Or.inl ne_a0_ln)).other W46 (Or.inr (slot_ne (Or.inr (hw _ (List.mem_of_getElem? (i := 27) rfl))) (Or.inl (hw _ (List.mem_of_getElem? (i := 52) rfl))) (by decide) (t := (.array .int)) (t' := .long) (by decide) (by decide))))
  have f54 := ((((fc_7.other W21 (Or.inl ne_a0_q1)).other W31 (Or.inl ne_a0_q2)).other W40 (Or.inl ne_a0_ln)).other W46 (Or.inr (slot_ne (Or.inr (hw _ (List.mem_of_getElem? (i := 33) rfl))) (Or.inl (hw _ (List.mem_of_getElem? (i := 52) rfl))) (by decide) (t := (.array .int)) (t' := .long) (by decide) (by decide))))
  have f55 := ((((fc_8.other W21 (Or.inl ne_a0_q1)).other W31 (Or.inl ne_a0_q2)).other W40 (Or.inl ne_a0_ln)).other W46 (Or.inr (slot_ne (Or.inr (hw _ (List.mem_of_getElem? (i := 35) rfl))) (Or.inl (hw _ (List.mem_of_getElem? (i := 52) rfl))) (by decide) (t := (.array (.array .int))) (t' := .long) (by decide) (by decide))))
  have f56 := ((((fc_9.other W21 (Or.inl ne_a0_q1)).other W31 (Or.inl ne_a0_q2)).other W40 (Or.inl ne_a0_ln)).other W46 (Or.inr (slot_ne (Or.inr (hw _ (List.mem_of_getElem? (i := 37) rfl))) (Or.inl (hw _ (List.mem_of_getElem? (i := 52) rfl))) (by decide) (t := (.array (.array .double))) (t' := .long) (by decide) (by decide))))
  have f57 := ((((fc_10.other W21 ne_rb_q1).other W31 ne_rb_q2).other W40 ne_rb_ln).other W46 (Ne.symm ne_a0_rb))
  have f58 := (((f26.other W31 ne_ml_q2).other W40 ne_ml_ln).other W46 (Ne.symm ne_a0_ml))
  have f59 := (VL40.other W46 (Ne.symm ne_a0_ln))
  have f60 := ((((fc_13.other W21 ne_pe_q1).other W31 ne_pe_q2).other W40 (Ne.symm ne_ln_pe)).other W46 (Ne.symm ne_a0_pe))
  have f61 := ((((fc_14.other W21 ne_pu_q1).other W31 ne_pu_q2).other W40 (Ne.symm ne_ln_pu)).other W46 (Ne.symm ne_a0_pu))
  have f62 := ((((fc_15.other W21 ne_pc_q1).other W31 ne_pc_q2).other W40 (Ne.symm ne_ln_pc)).other W46 (Ne.symm ne_a0_pc))
  obtain ⟨fs, hr, hrun, hended, hW, hsame⟩ := X46.leave (v := none) (fun _ => rfl)
  refine ⟨_, _, ?_, hrun, hended, _, _, rfl, ?_, ⟨_, rfl⟩, hW, hsame.mono (by decide) (by decide)⟩
  · rw [← hG0]
    refine K46 _ ?_
    exact X46.returnOut hx Bd.returns (hb hby d5_128) hr
  · show Q5_2 Z a0 p1 p2 r3 rb ml ln pe pu pc kr km kl ke ku kc rd cnt fr fm fl lpe lpu lpc q1 q2 k1 k2 y0 y1 y2 y3 t0 t1 t2 t3 h0 n0 _ T46.heap _
    rw [e46]
    exact ⟨rfl, N46, KQ47_4, ⟨f48, f49, f50, Fw46, f51, f52, f53, f54, f55, f56, f57, f58, f59, f60, f61, f62⟩⟩
def own_Rows (Z : State) (h : Heap) (w : Bool) (ra ca rc cc : Addr) (g0 g1 gf : Int32) (da db dc dd : UInt64) : Prop :=
  match w with
  | true => ∃ k1 k2 k3 k4 : ClassId, Arv Z h ra k1 .int (3 : Int32) [(.int g0), (.int g1), (.int gf)] (.int (0 : Int32)) ∧ Arv Z h ca k2 .double (3 : Int32) [(.double da), (.double db), (.double dd)] (.double 0) ∧ Arv Z h rc k3 .int (2 : Int32) [(.int g1), (.int gf)] (.int (0 : Int32)) ∧ Arv Z h cc k4 .double (2 : Int32) [(.double dc), (.double dd)] (.double 0)
  | false => ∃ k1 k2 k3 k4 : ClassId, Arv Z h ra k1 .int (2 : Int32) [(.int g0), (.int g1)] (.int (0 : Int32)) ∧ Arv Z h ca k2 .double (2 : Int32) [(.double da), (.double db)] (.double 0) ∧ Arv Z h rc k3 .int (1 : Int32) [(.int g1)] (.int (0 : Int32)) ∧ Arv Z h cc k4 .double (1 : Int32) [(.double dc)] (.double 0)
theorem own_Rows.keep0 {Z : State} {h h' : Heap} {w : Bool} {ra ca rc cc : Addr} {g0 g1 gf : Int32} {da db dc dd : UInt64} (F : own_Rows Z h w ra ca rc cc g0 g1 gf da db dc dd) (K : Keep h h' []) : own_Rows Z h' w ra ca rc cc g0 g1 gf da db dc dd := by
  cases w with
  | true =>
    obtain ⟨k1, k2, k3, k4, f1, f2, f3, f4⟩ := F
    exact ⟨k1, k2, k3, k4, f1.keep K (fun q => nomatch q), f2.keep K (fun q => nomatch q), f3.keep K (fun q => nomatch q), f4.keep K (fun q => nomatch q)⟩
  | false =>
    obtain ⟨k1, k2, k3, k4, f1, f2, f3, f4⟩ := F
    exact ⟨k1, k2, k3, k4, f1.keep K (fun q => nomatch q), f2.keep K (fun q => nomatch q), f3.keep K (fun q => nomatch q), f4.keep K (fun q => nomatch q)⟩
theorem d6_0 : decode prog_18_method_7_code 0 = .ok (.aload_n 0, 1) := by decide +kernel
theorem d6_1 : decode prog_18_method_7_code 1 = .ok (.getfield 47, 3) := by decide +kernel
theorem d6_4 : decode prog_18_method_7_code 4 = .ok (.newarray .double, 2) := by decide +kernel
theorem d6_6 : decode prog_18_method_7_code 6 = .ok (.astore_n 2, 1) := by decide +kernel
theorem d6_7 : decode prog_18_method_7_code 7 = .ok (.iconst 0, 1) := by decide +kernel
theorem d6_8 : decode prog_18_method_7_code 8 = .ok (.istore_n 3, 1) := by decide +kernel
theorem d6_9 : decode prog_18_method_7_code 9 = .ok (.iload_n 3, 1) := by decide +kernel
theorem d6_10 : decode prog_18_method_7_code 10 = .ok (.aload_n 0, 1) := by decide +kernel
theorem d6_11 : decode prog_18_method_7_code 11 = .ok (.getfield 47, 3) := by decide +kernel
theorem d6_14 : decode prog_18_method_7_code 14 = .ok (.if_icmp .ge 77, 3) := by decide +kernel
theorem d6_17 : decode prog_18_method_7_code 17 = .ok (.aload_n 0, 1) := by decide +kernel
theorem d6_18 : decode prog_18_method_7_code 18 = .ok (.getfield 38, 3) := by decide +kernel
theorem d6_21 : decode prog_18_method_7_code 21 = .ok (.iload_n 3, 1) := by decide +kernel
theorem d6_22 : decode prog_18_method_7_code 22 = .ok (.iaload, 1) := by decide +kernel
theorem d6_23 : decode prog_18_method_7_code 23 = .ok (.istore 4, 2) := by decide +kernel
theorem d6_25 : decode prog_18_method_7_code 25 = .ok (.aload_n 1, 1) := by decide +kernel
theorem d6_26 : decode prog_18_method_7_code 26 = .ok (.iload 4, 2) := by decide +kernel
theorem d6_28 : decode prog_18_method_7_code 28 = .ok (.daload, 1) := by decide +kernel
theorem d6_29 : decode prog_18_method_7_code 29 = .ok (.dstore 5, 2) := by decide +kernel
theorem d6_31 : decode prog_18_method_7_code 31 = .ok (.iconst 0, 1) := by decide +kernel
theorem d6_32 : decode prog_18_method_7_code 32 = .ok (.istore 7, 2) := by decide +kernel
theorem d6_34 : decode prog_18_method_7_code 34 = .ok (.iload 7, 2) := by decide +kernel
theorem d6_36 : decode prog_18_method_7_code 36 = .ok (.aload_n 0, 1) := by decide +kernel
theorem d6_37 : decode prog_18_method_7_code 37 = .ok (.getfield 29, 3) := by decide +kernel
theorem d6_40 : decode prog_18_method_7_code 40 = .ok (.iload 4, 2) := by decide +kernel
theorem d6_42 : decode prog_18_method_7_code 42 = .ok (.iaload, 1) := by decide +kernel
theorem d6_43 : decode prog_18_method_7_code 43 = .ok (.if_icmp .ge 37, 3) := by decide +kernel
theorem d6_46 : decode prog_18_method_7_code 46 = .ok (.dload 5, 2) := by decide +kernel
theorem d6_48 : decode prog_18_method_7_code 48 = .ok (.aload_n 0, 1) := by decide +kernel
theorem d6_49 : decode prog_18_method_7_code 49 = .ok (.getfield 25, 3) := by decide +kernel
theorem d6_52 : decode prog_18_method_7_code 52 = .ok (.iload 4, 2) := by decide +kernel
theorem d6_54 : decode prog_18_method_7_code 54 = .ok (.aaload, 1) := by decide +kernel
theorem d6_55 : decode prog_18_method_7_code 55 = .ok (.iload 7, 2) := by decide +kernel
theorem d6_57 : decode prog_18_method_7_code 57 = .ok (.daload, 1) := by decide +kernel
theorem d6_58 : decode prog_18_method_7_code 58 = .ok (.aload_n 2, 1) := by decide +kernel
theorem d6_59 : decode prog_18_method_7_code 59 = .ok (.aload_n 0, 1) := by decide +kernel
theorem d6_60 : decode prog_18_method_7_code 60 = .ok (.getfield 19, 3) := by decide +kernel
theorem d6_63 : decode prog_18_method_7_code 63 = .ok (.iload 4, 2) := by decide +kernel
theorem d6_65 : decode prog_18_method_7_code 65 = .ok (.aaload, 1) := by decide +kernel
theorem d6_66 : decode prog_18_method_7_code 66 = .ok (.iload 7, 2) := by decide +kernel
theorem d6_68 : decode prog_18_method_7_code 68 = .ok (.iaload, 1) := by decide +kernel
theorem d6_69 : decode prog_18_method_7_code 69 = .ok (.daload, 1) := by decide +kernel
theorem d6_70 : decode prog_18_method_7_code 70 = .ok (.dmul, 1) := by decide +kernel
theorem d6_71 : decode prog_18_method_7_code 71 = .ok (.dsub, 1) := by decide +kernel
theorem d6_72 : decode prog_18_method_7_code 72 = .ok (.dstore 5, 2) := by decide +kernel
theorem d6_74 : decode prog_18_method_7_code 74 = .ok (.iinc 7 1, 3) := by decide +kernel
theorem d6_77 : decode prog_18_method_7_code 77 = .ok (.goto (-43), 3) := by decide +kernel
theorem d6_80 : decode prog_18_method_7_code 80 = .ok (.aload_n 2, 1) := by decide +kernel
theorem d6_81 : decode prog_18_method_7_code 81 = .ok (.iload_n 3, 1) := by decide +kernel
theorem d6_82 : decode prog_18_method_7_code 82 = .ok (.dload 5, 2) := by decide +kernel
theorem d6_84 : decode prog_18_method_7_code 84 = .ok (.dastore, 1) := by decide +kernel
theorem d6_85 : decode prog_18_method_7_code 85 = .ok (.iinc 3 1, 3) := by decide +kernel
theorem d6_88 : decode prog_18_method_7_code 88 = .ok (.goto (-79), 3) := by decide +kernel
theorem d6_91 : decode prog_18_method_7_code 91 = .ok (.aload_n 0, 1) := by decide +kernel
theorem d6_92 : decode prog_18_method_7_code 92 = .ok (.getfield 7, 3) := by decide +kernel
theorem d6_95 : decode prog_18_method_7_code 95 = .ok (.newarray .double, 2) := by decide +kernel
theorem d6_97 : decode prog_18_method_7_code 97 = .ok (.astore_n 3, 1) := by decide +kernel
theorem d6_98 : decode prog_18_method_7_code 98 = .ok (.aload_n 0, 1) := by decide +kernel
theorem d6_99 : decode prog_18_method_7_code 99 = .ok (.getfield 47, 3) := by decide +kernel
theorem d6_102 : decode prog_18_method_7_code 102 = .ok (.iconst 1, 1) := by decide +kernel
theorem d6_103 : decode prog_18_method_7_code 103 = .ok (.isub, 1) := by decide +kernel
theorem d6_104 : decode prog_18_method_7_code 104 = .ok (.istore 4, 2) := by decide +kernel
theorem d6_106 : decode prog_18_method_7_code 106 = .ok (.iload 4, 2) := by decide +kernel
theorem d6_108 : decode prog_18_method_7_code 108 = .ok (.ifCond .lt 81, 3) := by decide +kernel
theorem d6_111 : decode prog_18_method_7_code 111 = .ok (.aload_n 0, 1) := by decide +kernel
theorem d6_112 : decode prog_18_method_7_code 112 = .ok (.getfield 41, 3) := by decide +kernel
theorem d6_115 : decode prog_18_method_7_code 115 = .ok (.iload 4, 2) := by decide +kernel
theorem d6_117 : decode prog_18_method_7_code 117 = .ok (.aaload, 1) := by decide +kernel
theorem d6_118 : decode prog_18_method_7_code 118 = .ok (.astore 5, 2) := by decide +kernel
theorem d6_120 : decode prog_18_method_7_code 120 = .ok (.aload_n 0, 1) := by decide +kernel
theorem d6_121 : decode prog_18_method_7_code 121 = .ok (.getfield 44, 3) := by decide +kernel
theorem d6_124 : decode prog_18_method_7_code 124 = .ok (.iload 4, 2) := by decide +kernel
theorem d6_126 : decode prog_18_method_7_code 126 = .ok (.aaload, 1) := by decide +kernel
theorem d6_127 : decode prog_18_method_7_code 127 = .ok (.astore 6, 2) := by decide +kernel
theorem d6_129 : decode prog_18_method_7_code 129 = .ok (.aload_n 2, 1) := by decide +kernel
theorem d6_130 : decode prog_18_method_7_code 130 = .ok (.iload 4, 2) := by decide +kernel
theorem d6_132 : decode prog_18_method_7_code 132 = .ok (.daload, 1) := by decide +kernel
theorem d6_133 : decode prog_18_method_7_code 133 = .ok (.dstore 7, 2) := by decide +kernel
theorem d6_135 : decode prog_18_method_7_code 135 = .ok (.iconst 1, 1) := by decide +kernel
theorem d6_136 : decode prog_18_method_7_code 136 = .ok (.istore 9, 2) := by decide +kernel
theorem d6_138 : decode prog_18_method_7_code 138 = .ok (.iload 9, 2) := by decide +kernel
theorem d6_140 : decode prog_18_method_7_code 140 = .ok (.aload 5, 2) := by decide +kernel
theorem d6_142 : decode prog_18_method_7_code 142 = .ok (.arraylength, 1) := by decide +kernel
theorem d6_143 : decode prog_18_method_7_code 143 = .ok (.if_icmp .ge 27, 3) := by decide +kernel
theorem d6_146 : decode prog_18_method_7_code 146 = .ok (.dload 7, 2) := by decide +kernel
theorem d6_148 : decode prog_18_method_7_code 148 = .ok (.aload 6, 2) := by decide +kernel
theorem d6_150 : decode prog_18_method_7_code 150 = .ok (.iload 9, 2) := by decide +kernel
theorem d6_152 : decode prog_18_method_7_code 152 = .ok (.daload, 1) := by decide +kernel
theorem d6_153 : decode prog_18_method_7_code 153 = .ok (.aload_n 3, 1) := by decide +kernel
theorem d6_154 : decode prog_18_method_7_code 154 = .ok (.aload 5, 2) := by decide +kernel
theorem d6_156 : decode prog_18_method_7_code 156 = .ok (.iload 9, 2) := by decide +kernel
theorem d6_158 : decode prog_18_method_7_code 158 = .ok (.iaload, 1) := by decide +kernel
theorem d6_159 : decode prog_18_method_7_code 159 = .ok (.daload, 1) := by decide +kernel
theorem d6_160 : decode prog_18_method_7_code 160 = .ok (.dmul, 1) := by decide +kernel
theorem d6_161 : decode prog_18_method_7_code 161 = .ok (.dsub, 1) := by decide +kernel
theorem d6_162 : decode prog_18_method_7_code 162 = .ok (.dstore 7, 2) := by decide +kernel
theorem d6_164 : decode prog_18_method_7_code 164 = .ok (.iinc 9 1, 3) := by decide +kernel
theorem d6_167 : decode prog_18_method_7_code 167 = .ok (.goto (-29), 3) := by decide +kernel
theorem d6_170 : decode prog_18_method_7_code 170 = .ok (.aload_n 3, 1) := by decide +kernel
theorem d6_171 : decode prog_18_method_7_code 171 = .ok (.aload 5, 2) := by decide +kernel
theorem d6_173 : decode prog_18_method_7_code 173 = .ok (.iconst 0, 1) := by decide +kernel
theorem d6_174 : decode prog_18_method_7_code 174 = .ok (.iaload, 1) := by decide +kernel
theorem d6_175 : decode prog_18_method_7_code 175 = .ok (.dload 7, 2) := by decide +kernel
theorem d6_177 : decode prog_18_method_7_code 177 = .ok (.aload 6, 2) := by decide +kernel
theorem d6_179 : decode prog_18_method_7_code 179 = .ok (.iconst 0, 1) := by decide +kernel
theorem d6_180 : decode prog_18_method_7_code 180 = .ok (.daload, 1) := by decide +kernel
theorem d6_181 : decode prog_18_method_7_code 181 = .ok (.ddiv, 1) := by decide +kernel
theorem d6_182 : decode prog_18_method_7_code 182 = .ok (.dastore, 1) := by decide +kernel
theorem d6_183 : decode prog_18_method_7_code 183 = .ok (.iinc 4 (-1), 3) := by decide +kernel
theorem d6_186 : decode prog_18_method_7_code 186 = .ok (.goto (-80), 3) := by decide +kernel
theorem d6_189 : decode prog_18_method_7_code 189 = .ok (.aload_n 3, 1) := by decide +kernel
theorem d6_190 : decode prog_18_method_7_code 190 = .ok (.areturn, 1) := by decide +kernel
theorem ef_rm6_11 (m : MethodId) (a0 : Addr) (a1 : Addr) : entryFrame m #[(.ref a0), (.ref a1)] 10 = (mkF m 0 #[.val (.ref a0), .val (.ref a1), .unset, .unset, .unset, .unset, .unset, .unset, .unset, .unset] []) := by first | (simp [entryFrame, mkF, argsToLocals, Value.category]; done) | rfl
def Q6_11 (Z : State) (a0 : Addr) (a1 : Addr) (rb : Addr) (ml : Addr) (ln : Addr) (pe : Addr) (pu : Addr) (pc : Addr) (ra : Addr) (ca : Addr) (rc : Addr) (cc : Addr) (kr : ClassId) (km : ClassId) (kl : ClassId) (ke : ClassId) (ku : ClassId) (kc : ClassId) (kq : ClassId) (rd : Int64) (fr : Int32 → Value) (fm : Int32 → Value) (fl : Int32 → Value) (fq : Int32 → Value) (x2 : Value) (x3 : Value) (x4 : Value) (ea : Int32) (eb : Int32) (g0 : Int32) (g1 : Int32) (gf : Int32) (r0 : UInt64) (r1 : UInt64) (da : UInt64) (db : UInt64) (dc : UInt64) (dd : UInt64) (R0 : Int) (R1 : Int) (M : Int) (A : Int) (A' : Int) (B : Int) (C : Int) (C' : Int) (D : Int) (q1 : Addr) (q2 : Addr) (k1 : ClassId) (k2 : ClassId) (dm : UInt64) (h0 : Heap) (n0 : Nat) (v : Option Value) (h : Heap) (L : List Loc) : Prop := ∃ (r : Addr) (kx : ClassId) (x0 x1 : UInt64), v = some (.ref r) ∧ Fr n0 L ∧ Keep h0 h [] ∧ Arv Z h r kx .double (3 : Int32) (own_l3 (own_u g0 (.double x0) (own_u g1 (.double x1) (fun _ => (.double 0))))) (.double 0) ∧ own_V 3 ((R1 - M * R0) * C') x1 ∧ own_V 6 ((R0 * 8 - B * ((R1 - M * R0) * C')) * A') x0
set_option maxRecDepth 65536 in
set_option maxHeartbeats 40000000 in
theorem rm6_11 (l : Launch) (Z : State) (aa : Array Value) (hw : ∀ d ∈ tables_1, d.before aa Z = true) (ws : List Jvm.Cond) (a0 : Addr) (a1 : Addr) (rb : Addr) (ml : Addr) (ln : Addr) (pe : Addr) (pu : Addr) (pc : Addr) (ra : Addr) (ca : Addr) (rc : Addr) (cc : Addr) (kr : ClassId) (km : ClassId) (kl : ClassId) (ke : ClassId) (ku : ClassId) (kc : ClassId) (kq : ClassId) (rd : Int64) (fr : Int32 → Value) (fm : Int32 → Value) (fl : Int32 → Value) (fq : Int32 → Value) (x2 : Value) (x3 : Value) (x4 : Value) (ea : Int32) (eb : Int32) (g0 : Int32) (g1 : Int32) (gf : Int32) (r0 : UInt64) (r1 : UInt64) (da : UInt64) (db : UInt64) (dc : UInt64) (dd : UInt64) (R0 : Int) (R1 : Int) (M : Int) (A : Int) (A' : Int) (B : Int) (C : Int) (C' : Int) (D : Int) (q1 : Addr) (q2 : Addr) (k1 : ClassId) (k2 : ClassId) (dm : UInt64) (h0 : Heap) (n0 : Nat) (Z0 : n0 ≤ h0.size) (FA : own_Fac Z h0 a0 rb ml ln pe pu pc kr km kl ke ku kc (3 : Int32) (2 : Int32) rd (own_l3 fr) (own_l3 fm) (own_l3 fl) [(.int ea), (.int eb), x2] [(.ref ra), (.ref rc), x3] [(.ref ca), (.ref cc), x4]) (V_q : Arv Z h0 a1 kq .double (3 : Int32) (own_l3 fq) (.double 0)) (hq0 : fq ea = (.double r0)) (hq1 : fq eb = (.double r1)) (hRa : own_R ea) (hRb : own_R eb) (hR0 : own_R g0) (hR1 : own_R g1) (hRf : own_R gf) (n01 : g0 ≠ g1) (n0f : g0 ≠ gf) (n1f : g1 ≠ gf) (hl0 : fl ea = (.int (0 : Int32))) (v0 : own_V 0 R0 r0) (v1 : own_V 0 R1 r1) (va : own_V 0 A da) (vb : own_V 0 B db) (vc : own_V 0 C dc) (vd : own_V 0 D dd) (aa' : A * A' = 8) (cc' : C * C' = 8) (ba : A'.natAbs ≤ 8) (bc : C'.natAbs ≤ 8) (bb : B.natAbs ≤ 8) (bm : M.natAbs ≤ 8) (b0 : R0.natAbs ≤ 2147483648) (b1 : R1.natAbs ≤ 2147483648) (RW : own_Rows Z h0 true ra ca rc cc g0 g1 gf da db dc dd) (hl1 : fl eb = (.int (1 : Int32))) (hfr : fr eb = (.ref q1)) (hfm : fm eb = (.ref q2)) (V_q1 : Arv Z h0 q1 k1 .int (4 : Int32) [(.int (0 : Int32)), (.int (0 : Int32)), (.int (0 : Int32)), (.int (0 : Int32))] (.int (0 : Int32))) (V_q2 : Arv Z h0 q2 k2 .double (4 : Int32) [(.double dm), (.double 0), (.double 0), (.double 0)] (.double 0)) (vm : own_V 0 M dm) :
    MetFree l (⟨"com/example/sondage/sondage/inference/Factorization", "solve", "([D)[D"⟩ : MethodName) (head1 (Jvm.Cond.code (⟨"com/example/sondage/sondage/inference/Factorization", "solve", "([D)[D"⟩ : MethodName) prog_18_method_7_code 10 (some (.array .double)) :: ws) ({ frames := 0, cells := 2, slots := 5, locals := 0 } : Room)) (fun a U => a = #[(.ref a0), (.ref a1)] ∧ Z.Warmed39 U.vm ∧ U.heap = h0) (fun _ _ _ _ _ => True) (fun _ U o U' => ∃ v L, o = .returned v ∧ Q6_11 Z a0 a1 rb ml ln pe pu pc ra ca rc cc kr km kl ke ku kc kq rd fr fm fl fq x2 x3 x4 ea eb g0 g1 gf r0 r1 da db dc dd R0 R1 M A A' B C C' D q1 q2 k1 k2 dm h0 n0 v U'.heap L ∧ FrameEnd U o U' L ({ frames := 0, cells := 2, slots := 5, locals := 0 } : Room).cells ({ frames := 0, cells := 2, slots := 5, locals := 0 } : Room).slots) := by
  refine MetFree.of_bodySF (plainFor_of_name pn_com_example_sondage_sondage_inference_Factorization) hisR ?_
  intro p e s m args below meth c s₁ Bd hml0 hP hK
  obtain ⟨rfl, hZ, hh⟩ := hP
  have hx := Bd.exec
  have hby := Bd.bytes
  have hml : c.maxLocals = 10 := hml0
  have hown : s.vm.findClass "com/example/sondage/sondage/inference/Factorization" = some m.cls := findClass_of_methodNamed Bd.named
  have hnm := (name_of_methodNamed Bd.named Bd.method).1
  have X0 : Stand p l e ({ frames := 0, cells := 2, slots := 5, locals := 0 } : Room) s m #[(.ref a0), (.ref a1)] below meth c s₁ [] 0 0 := Stand.of_body Bd
  have e0 : s₁.heap = h0 := by rw [← hh, Bd.state]; rfl
  have N0 := Fr.nil n0
  obtain ⟨G0, hG0⟩ : ∃ G, G = s₁.setTop (entryFrame m #[(.ref a0), (.ref a1)] 10) := ⟨_, rfl⟩
  have K0 : own_K p e below G0 s₁ (mkF m 0 #[.val (.ref a0), .val (.ref a1), .unset, .unset, .unset, .unset, .unset, .unset, .unset, .unset] []) := fun t k => by rw [hG0]; exact castTop (ef_rm6_11 m a0 a1) k
  obtain ⟨fc_0, fc_1, fc_2, fc_3, fc_4, fc_5, fc_6, fc_7, fc_8, fc_9, fc_10, fc_11, fc_12, fc_13, fc_14, fc_15⟩ := id FA
  obtain ⟨kh1, kh2, kh3, kh4, V_ra, V_ca, V_rc, V_cc⟩ := RW
  obtain ⟨qa, qb⟩ := own_numR v0 v1 vm b0 b1 bm
  have bv := own_numV b0 b1 bm
  obtain ⟨qc, qd⟩ := own_V_z0 (k := 0) (by omega) qb vd own_V_0 (by omega)
  have qx := own_numX qd vc cc' bc bv
  have bn := own_ab bv bc
  obtain ⟨qe, qf, qg⟩ := own_numT v0 vb qx b0 bb (by omega)
  obtain ⟨qc2, qh⟩ := own_V_z0 (k := 3) (by omega) qf vd own_V_0 (by omega)
  have qy := own_numY qh va aa' ba qg
  have K1 : own_K p e below G0 s₁ (mkF m 1 #[.val (.ref a0), .val (.ref a1), .unset, .unset, .unset, .unset, .unset, .unset, .unset, .unset] [(.ref a0)]) := by
    intro t kt
    refine K0 t ?_
    refine XS.aloadN X0.here hx rfl (hb hby d6_0) rfl rfl ?_
    show own_S p e below s₁ (mkF m 1 _ [(.ref a0)]) _
    exact kt
  obtain ⟨T2, X2, e2, st2⟩ := getF X0 hx hZ hown (host := "") (Or.inl (hw _ (List.mem_of_getElem? (i := 43) rfl))) Via.refl e0 fc_2 (g := (mkF m 1 #[.val (.ref a0), .val (.ref a1), .unset, .unset, .unset, .unset, .unset, .unset, .unset, .unset] [(.ref a0)])) rfl rfl (hb hby d6_1)
  have K2 : own_K p e below G0 T2 (mkF m 4 #[.val (.ref a0), .val (.ref a1), .unset, .unset, .unset, .unset, .unset, .unset, .unset, .unset] [(.int (2 : Int32))]) := fun t kt => K1 t (st2 _ kt)
  obtain ⟨T3, h3, k3, X3, e3, E3, A3, st3⟩ := newP X2 hx hZ (hw _ (List.mem_of_getElem? (i := 4) rfl)) e2 (g := (mkF m 4 #[.val (.ref a0), .val (.ref a1), .unset, .unset, .unset, .unset, .unset, .unset, .unset, .unset] [(.int (2 : Int32))])) rfl (hb hby d6_4) rfl (by decide) (cap := 2) (by decide) (by decide) (by decide) (by decide)
  obtain ⟨b3, g3⟩ : ∃ z, z = h0.size := ⟨_, rfl⟩
  rw [← g3] at A3 st3
  have V3 := Arv.new A3 (by decide)
  have gn3 : n0 ≤ b3 := Nat.le_trans Z0 (Nat.le_of_eq g3.symm)
  have Z3 : n0 ≤ h3.size := Nat.le_trans Z0 E3.1
  have K3 : own_K p e below G0 T3 (mkF m 6 #[.val (.ref a0), .val (.ref a1), .unset, .unset, .unset, .unset, .unset, .unset, .unset, .unset] [(.ref b3)]) := fun t kt => K2 t (st3 _ kt)
  have ne_a0_b3 : a0 ≠ b3 := Nat.ne_of_lt (Nat.lt_of_lt_of_le (fc_0).lt (Nat.le_of_eq g3.symm))
  have ne_rb_b3 : rb ≠ b3 := Nat.ne_of_lt (Nat.lt_of_lt_of_le (fc_10).lt (Nat.le_of_eq g3.symm))
  have ne_ml_b3 : ml ≠ b3 := Nat.ne_of_lt (Nat.lt_of_lt_of_le (fc_11).lt (Nat.le_of_eq g3.symm))
  have ne_ln_b3 : ln ≠ b3 := Nat.ne_of_lt (Nat.lt_of_lt_of_le (fc_12).lt (Nat.le_of_eq g3.symm))
  have ne_pe_b3 : pe ≠ b3 := Nat.ne_of_lt (Nat.lt_of_lt_of_le (fc_13).lt (Nat.le_of_eq g3.symm))
  have ne_pu_b3 : pu ≠ b3 := Nat.ne_of_lt (Nat.lt_of_lt_of_le (fc_14).lt (Nat.le_of_eq g3.symm))
  have ne_pc_b3 : pc ≠ b3 := Nat.ne_of_lt (Nat.lt_of_lt_of_le (fc_15).lt (Nat.le_of_eq g3.symm))
  have ne_a1_b3 : a1 ≠ b3 := Nat.ne_of_lt (Nat.lt_of_lt_of_le (V_q).lt (Nat.le_of_eq g3.symm))
  have ne_ra_b3 : ra ≠ b3 := Nat.ne_of_lt (Nat.lt_of_lt_of_le (V_ra).lt (Nat.le_of_eq g3.symm))
  have ne_ca_b3 : ca ≠ b3 := Nat.ne_of_lt (Nat.lt_of_lt_of_le (V_ca).lt (Nat.le_of_eq g3.symm))
  have ne_rc_b3 : rc ≠ b3 := Nat.ne_of_lt (Nat.lt_of_lt_of_le (V_rc).lt (Nat.le_of_eq g3.symm))
  have ne_cc_b3 : cc ≠ b3 := Nat.ne_of_lt (Nat.lt_of_lt_of_le (V_cc).lt (Nat.le_of_eq g3.symm))
  have ne_q1_b3 : q1 ≠ b3 := Nat.ne_of_lt (Nat.lt_of_lt_of_le (V_q1).lt (Nat.le_of_eq g3.symm))
  have ne_q2_b3 : q2 ≠ b3 := Nat.ne_of_lt (Nat.lt_of_lt_of_le (V_q2).lt (Nat.le_of_eq g3.symm))
  have VL3 : Arv Z h3 b3 k3 .double (2 : Int32) [(.double 0), (.double 0)] (.double 0) := V3.pad (pad_rep [] (.double 0) 2)
  have K4 : own_K p e below G0 T3 (mkF m 11 #[.val (.ref a0), .val (.ref a1), .val (.ref b3), .val (.int (0 : Int32)), .unset, .unset, .unset, .unset, .unset, .unset] [(.ref a0), (.int (0 : Int32))]) := by
    intro t kt
    refine K3 t ?_
    refine XS.astoreN X3.here hx rfl (hb hby d6_6) rfl rfl (l' := #[.val (.ref a0), .val (.ref a1), .val (.ref b3), .unset, .unset, .unset, .unset, .unset, .unset, .unset]) rfl ?_
    show own_S p e below T3 (mkF m 7 _ []) _
    refine XS.iconst X3.here hx rfl (hb hby d6_7) ?_
    show own_S p e below T3 (mkF m 8 _ [(.int (0 : Int32))]) _
    refine XS.istoreN X3.here hx rfl (hb hby d6_8) rfl (l' := #[.val (.ref a0), .val (.ref a1), .val (.ref b3), .val (.int (0 : Int32)), .unset, .unset, .unset, .unset, .unset, .unset]) rfl ?_
    show own_S p e below T3 (mkF m 9 _ []) _
    refine XS.iloadN X3.here hx rfl (hb hby d6_9) rfl ?_
    show own_S p e below T3 (mkF m 10 _ [(.int (0 : Int32))]) _
    refine XS.aloadN X3.here hx rfl (hb hby d6_10) rfl rfl ?_
    show own_S p e below T3 (mkF m 11 _ [(.ref a0), (.int (0 : Int32))]) _
    exact kt
  have f5 := (fc_2.ext E3)
  obtain ⟨T6, X6, e6, st6⟩ := getF X3 hx hZ hown (host := "") (Or.inl (hw _ (List.mem_of_getElem? (i := 43) rfl))) Via.refl e3 f5 (g := (mkF m 11 #[.val (.ref a0), .val (.ref a1), .val (.ref b3), .val (.int (0 : Int32)), .unset, .unset, .unset, .unset, .unset, .unset] [(.ref a0), (.int (0 : Int32))])) rfl rfl (hb hby d6_11)
  have K6 : own_K p e below G0 T6 (mkF m 14 #[.val (.ref a0), .val (.ref a1), .val (.ref b3), .val (.int (0 : Int32)), .unset, .unset, .unset, .unset, .unset, .unset] [(.int (2 : Int32)), (.int (0 : Int32))]) := fun t kt => K4 t (st6 _ kt)
  have K7 : own_K p e below G0 T6 (mkF m 18 #[.val (.ref a0), .val (.ref a1), .val (.ref b3), .val (.int (0 : Int32)), .unset, .unset, .unset, .unset, .unset, .unset] [(.ref a0)]) := by
    intro t kt
    refine K6 t ?_
    refine XS.icmpNo X6.here hx rfl (hb hby d6_14) rfl (tlt (by decide)).2.1 ?_
    show own_S p e below T6 (mkF m 17 _ []) _
    refine XS.aloadN X6.here hx rfl (hb hby d6_17) rfl rfl ?_
    show own_S p e below T6 (mkF m 18 _ [(.ref a0)]) _
    exact kt
  have f8 := (fc_7.ext E3)
  obtain ⟨T9, X9, e9, st9⟩ := getF X6 hx hZ hown (host := "") (Or.inl (hw _ (List.mem_of_getElem? (i := 32) rfl))) Via.refl e6 f8 (g := (mkF m 18 #[.val (.ref a0), .val (.ref a1), .val (.ref b3), .val (.int (0 : Int32)), .unset, .unset, .unset, .unset, .unset, .unset] [(.ref a0)])) rfl rfl (hb hby d6_18)
  have K9 : own_K p e below G0 T9 (mkF m 21 #[.val (.ref a0), .val (.ref a1), .val (.ref b3), .val (.int (0 : Int32)), .unset, .unset, .unset, .unset, .unset, .unset] [(.ref pe)]) := fun t kt => K7 t (st9 _ kt)
  have K10 : own_K p e below G0 T9 (mkF m 22 #[.val (.ref a0), .val (.ref a1), .val (.ref b3), .val (.int (0 : Int32)), .unset, .unset, .unset, .unset, .unset, .unset] [(.int (0 : Int32)), (.ref pe)]) := by
    intro t kt
    refine K9 t ?_
    refine XS.iloadN X9.here hx rfl (hb hby d6_21) rfl ?_
    show own_S p e below T9 (mkF m 22 _ [(.int (0 : Int32)), (.ref pe)]) _
    exact kt
  have f11 := (fc_13.ext E3)
  obtain ⟨cl12, Ar12, qq12, S12, M12, H12, GG12⟩ := id f11
  have hin12 : ¬ ((0 : Int32) < 0 ∨ cl12.slots.size ≤ ((0 : Int32)).toNatClampNeg) := inb_of S12 ⟨by decide, by decide⟩
  have hat12 : cl12.slots[((0 : Int32)).toNatClampNeg]? = some (.int ea) := Has.at H12 hin12 rfl
  have K13 : own_K p e below G0 T9 (mkF m 28 #[.val (.ref a0), .val (.ref a1), .val (.ref b3), .val (.int (0 : Int32)), .val (.int ea), .unset, .unset, .unset, .unset, .unset] [(.int ea), (.ref a1)]) := by
    intro t kt
    refine K10 t ?_
    refine X9.iaload hx (j := (0 : Int32)) (v := (.int ea)) (by rw [e9]; exact (Ar12).1) (State.isArrayOf_alike hZ.alike (Ar12).2.1) (Ar12).2.2 hin12 hat12 (g := (mkF m 22 #[.val (.ref a0), .val (.ref a1), .val (.ref b3), .val (.int (0 : Int32)), .unset, .unset, .unset, .unset, .unset, .unset] [(.int (0 : Int32)), (.ref pe)])) rfl rfl (hb hby d6_22) _ ?_
    show own_S p e below T9 (mkF m 23 _ [(.int ea)]) _
    refine XS.istore X9.here hx rfl (hb hby d6_23) rfl (l' := #[.val (.ref a0), .val (.ref a1), .val (.ref b3), .val (.int (0 : Int32)), .val (.int ea), .unset, .unset, .unset, .unset, .unset]) rfl ?_
    show own_S p e below T9 (mkF m 25 _ []) _
    refine XS.aloadN X9.here hx rfl (hb hby d6_25) rfl rfl ?_
    show own_S p e below T9 (mkF m 26 _ [(.ref a1)]) _
    refine XS.iload X9.here hx rfl (hb hby d6_26) rfl ?_
    show own_S p e below T9 (mkF m 28 _ [(.int ea), (.ref a1)]) _
    exact kt
  have f14 := (V_q.ext E3)
  obtain ⟨cl15, Ar15, qq15, S15, M15, H15, GG15⟩ := id f14
  have hin15 := inb_of S15 (own_in3 hRa)
  have hat15 : cl15.slots[(ea).toNatClampNeg]? = some (.double r0) := Has.at H15 hin15 ((own_g3 hRa).trans hq0)
  have K16 : own_K p e below G0 T9 (mkF m 37 #[.val (.ref a0), .val (.ref a1), .val (.ref b3), .val (.int (0 : Int32)), .val (.int ea), .val (.double r0), .second, .val (.int (0 : Int32)), .unset, .unset] [(.ref a0), (.int (0 : Int32))]) := by
    intro t kt
    refine K13 t ?_
    refine X9.daload hx (j := ea) (v := (.double r0)) (by rw [e9]; exact (Ar15).1) (State.isArrayOf_alike hZ.alike (Ar15).2.1) (Ar15).2.2 hin15 hat15 (g := (mkF m 28 #[.val (.ref a0), .val (.ref a1), .val (.ref b3), .val (.int (0 : Int32)), .val (.int ea), .unset, .unset, .unset, .unset, .unset] [(.int ea), (.ref a1)])) rfl rfl (hb hby d6_28) _ ?_
    show own_S p e below T9 (mkF m 29 _ [(.double r0)]) _
    refine XS.dstore X9.here hx rfl (hb hby d6_29) rfl (l' := #[.val (.ref a0), .val (.ref a1), .val (.ref b3), .val (.int (0 : Int32)), .val (.int ea), .val (.double r0), .second, .unset, .unset, .unset]) rfl ?_
    show own_S p e below T9 (mkF m 31 _ []) _
    refine XS.iconst X9.here hx rfl (hb hby d6_31) ?_
    show own_S p e below T9 (mkF m 32 _ [(.int (0 : Int32))]) _
    refine XS.istore X9.here hx rfl (hb hby d6_32) rfl (l' := #[.val (.ref a0), .val (.ref a1), .val (.ref b3), .val (.int (0 : Int32)), .val (.int ea), .val (.double r0), .second, .val (.int (0 : Int32)), .unset, .unset]) rfl ?_
    show own_S p e below T9 (mkF m 34 _ []) _
    refine XS.iload X9.here hx rfl (hb hby d6_34) rfl ?_
    show own_S p e below T9 (mkF m 36 _ [(.int (0 : Int32))]) _
    refine XS.aloadN X9.here hx rfl (hb hby d6_36) rfl rfl ?_
    show own_S p e below T9 (mkF m 37 _ [(.ref a0), (.int (0 : Int32))]) _
    exact kt
  have f17 := (fc_6.ext E3)
  obtain ⟨T18, X18, e18, st18⟩ := getF X9 hx hZ hown (host := "") (Or.inl (hw _ (List.mem_of_getElem? (i := 26) rfl))) Via.refl e9 f17 (g := (mkF m 37 #[.val (.ref a0), .val (.ref a1), .val (.ref b3), .val (.int (0 : Int32)), .val (.int ea), .val (.double r0), .second, .val (.int (0 : Int32)), .unset, .unset] [(.ref a0), (.int (0 : Int32))])) rfl rfl (hb hby d6_37)
  have K18 : own_K p e below G0 T18 (mkF m 40 #[.val (.ref a0), .val (.ref a1), .val (.ref b3), .val (.int (0 : Int32)), .val (.int ea), .val (.double r0), .second, .val (.int (0 : Int32)), .unset, .unset] [(.ref ln), (.int (0 : Int32))]) := fun t kt => K16 t (st18 _ kt)
  have K19 : own_K p e below G0 T18 (mkF m 42 #[.val (.ref a0), .val (.ref a1), .val (.ref b3), .val (.int (0 : Int32)), .val (.int ea), .val (.double r0), .second, .val (.int (0 : Int32)), .unset, .unset] [(.int ea), (.ref ln), (.int (0 : Int32))]) := by
    intro t kt
    refine K18 t ?_
    refine XS.iload X18.here hx rfl (hb hby d6_40) rfl ?_
    show own_S p e below T18 (mkF m 42 _ [(.int ea), (.ref ln), (.int (0 : Int32))]) _
    exact kt
  have f20 := (fc_12.ext E3)
  obtain ⟨cl21, Ar21, qq21, S21, M21, H21, GG21⟩ := id f20
  have hin21 := inb_of S21 (own_in3 hRa)
  have hat21 : cl21.slots[(ea).toNatClampNeg]? = some (.int (0 : Int32)) := Has.at H21 hin21 ((own_g3 hRa).trans hl0)
  have K22 : own_K p e below G0 T18 (mkF m 84 #[.val (.ref a0), .val (.ref a1), .val (.ref b3), .val (.int (0 : Int32)), .val (.int ea), .val (.double r0), .second, .val (.int (0 : Int32)), .unset, .unset] [(.double r0), (.int (0 : Int32)), (.ref b3)]) := by
    intro t kt
    refine K19 t ?_
    refine X18.iaload hx (j := ea) (v := (.int (0 : Int32))) (by rw [e18]; exact (Ar21).1) (State.isArrayOf_alike hZ.alike (Ar21).2.1) (Ar21).2.2 hin21 hat21 (g := (mkF m 42 #[.val (.ref a0), .val (.ref a1), .val (.ref b3), .val (.int (0 : Int32)), .val (.int ea), .val (.double r0), .second, .val (.int (0 : Int32)), .unset, .unset] [(.int ea), (.ref ln), (.int (0 : Int32))])) rfl rfl (hb hby d6_42) _ ?_
    show own_S p e below T18 (mkF m 43 _ [(.int (0 : Int32)), (.int (0 : Int32))]) _
    refine XS.icmpYes X18.here hx rfl (pc0 := 43) (pc' := 80) rfl (hb hby d6_43) rfl (flt (by decide)).2.1 (by decide) (by decide) ?_
    show own_S p e below T18 (mkF m 80 _ []) _
    refine XS.aloadN X18.here hx rfl (hb hby d6_80) rfl rfl ?_
    show own_S p e below T18 (mkF m 81 _ [(.ref b3)]) _
    refine XS.iloadN X18.here hx rfl (hb hby d6_81) rfl ?_
    show own_S p e below T18 (mkF m 82 _ [(.int (0 : Int32)), (.ref b3)]) _
    refine XS.dload X18.here hx rfl (hb hby d6_82) rfl ?_
    show own_S p e below T18 (mkF m 84 _ [(.double r0), (.int (0 : Int32)), (.ref b3)]) _
    exact kt
  obtain ⟨cl23, Ar23, qq23, S23, M23, H23, GG23⟩ := id VL3
  have hin23 : ¬ ((0 : Int32) < 0 ∨ cl23.slots.size ≤ ((0 : Int32)).toNatClampNeg) := inb_of S23 ⟨by decide, by decide⟩
  obtain ⟨T24, h24, X24, e24, W24, st24⟩ := stD X18 hx hZ e18 Ar23 (j := (0 : Int32)) hin23 (g := (mkF m 84 #[.val (.ref a0), .val (.ref a1), .val (.ref b3), .val (.int (0 : Int32)), .val (.int ea), .val (.double r0), .second, .val (.int (0 : Int32)), .unset, .unset] [(.double r0), (.int (0 : Int32)), (.ref b3)])) rfl rfl (hb hby d6_84)
  have K24 : own_K p e below G0 T24 (mkF m 85 #[.val (.ref a0), .val (.ref a1), .val (.ref b3), .val (.int (0 : Int32)), .val (.int ea), .val (.double r0), .second, .val (.int (0 : Int32)), .unset, .unset] []) := fun t kt => K22 t (st24 _ kt)
  have Z24 : n0 ≤ h24.size := Nat.le_trans Z3 (Keep.of_wr W24).1
  have VL24 : Arv Z h24 b3 k3 .double (2 : Int32) [(.double r0), (.double 0)] (.double 0) := Arv.set Ar23 qq23 S23 M23 H23 GG23 rfl W24 0 rfl (Nat.le_of_ble_eq_true rfl)
  have N24 := Fr.snoc X24 N0 gn3
  have K25 : own_K p e below G0 T24 (mkF m 88 #[.val (.ref a0), .val (.ref a1), .val (.ref b3), .val (.int ((0 : Int32) + (1 : Int32))), .val (.int ea), .val (.double r0), .second, .val (.int (0 : Int32)), .unset, .unset] []) := by
    intro t kt
    refine K24 t ?_
    refine XS.iinc X24.here hx rfl (hb hby d6_85) rfl (l' := #[.val (.ref a0), .val (.ref a1), .val (.ref b3), .val (.int ((0 : Int32) + (1 : Int32))), .val (.int ea), .val (.double r0), .second, .val (.int (0 : Int32)), .unset, .unset]) rfl ?_
    show own_S p e below T24 (mkF m 88 _ []) _
    exact kt
  rw [show ((0 : Int32) + (1 : Int32)) = (1 : Int32) from by decide] at K25
  have K26 : own_K p e below G0 T24 (mkF m 11 #[.val (.ref a0), .val (.ref a1), .val (.ref b3), .val (.int (1 : Int32)), .val (.int ea), .val (.double r0), .second, .val (.int (0 : Int32)), .unset, .unset] [(.ref a0), (.int (1 : Int32))]) := by
    intro t kt
    refine K25 t ?_
    refine XS.goto X24.here hx rfl (pc0 := 88) (pc' := 9) rfl (hb hby d6_88) (by decide) (by decide) ?_
    show own_S p e below T24 (mkF m 9 _ []) _
    refine XS.iloadN X24.here hx rfl (hb hby d6_9) rfl ?_
    show own_S p e below T24 (mkF m 10 _ [(.int (1 : Int32))]) _
    refine XS.aloadN X24.here hx rfl (hb hby d6_10) rfl rfl ?_
    show own_S p e below T24 (mkF m 11 _ [(.ref a0), (.int (1 : Int32))]) _
    exact kt
  have f27 := (f5.other W24 (Or.inl ne_a0_b3))
  obtain ⟨T28, X28, e28, st28⟩ := getF X24 hx hZ hown (host := "") (Or.inl (hw _ (List.mem_of_getElem? (i := 43) rfl))) Via.refl e24 f27 (g := (mkF m 11 #[.val (.ref a0), .val (.ref a1), .val (.ref b3), .val (.int (1 : Int32)), .val (.int ea), .val (.double r0), .second, .val (.int (0 : Int32)), .unset, .unset] [(.ref a0), (.int (1 : Int32))])) rfl rfl (hb hby d6_11)
  have K28 : own_K p e below G0 T28 (mkF m 14 #[.val (.ref a0), .val (.ref a1), .val (.ref b3), .val (.int (1 : Int32)), .val (.int ea), .val (.double r0), .second, .val (.int (0 : Int32)), .unset, .unset] [(.int (2 : Int32)), (.int (1 : Int32))]) := fun t kt => K26 t (st28 _ kt)
  have K29 : own_K p e below G0 T28 (mkF m 18 #[.val (.ref a0), .val (.ref a1), .val (.ref b3), .val (.int (1 : Int32)), .val (.int ea), .val (.double r0), .second, .val (.int (0 : Int32)), .unset, .unset] [(.ref a0)]) := by
    intro t kt
    refine K28 t ?_
    refine XS.icmpNo X28.here hx rfl (hb hby d6_14) rfl (tlt (by decide)).2.1 ?_
    show own_S p e below T28 (mkF m 17 _ []) _
    refine XS.aloadN X28.here hx rfl (hb hby d6_17) rfl rfl ?_
    show own_S p e below T28 (mkF m 18 _ [(.ref a0)]) _
    exact kt
  have f30 := (f8.other W24 (Or.inl ne_a0_b3))
  obtain ⟨T31, X31, e31, st31⟩ := getF X28 hx hZ hown (host := "") (Or.inl (hw _ (List.mem_of_getElem? (i := 32) rfl))) Via.refl e28 f30 (g := (mkF m 18 #[.val (.ref a0), .val (.ref a1), .val (.ref b3), .val (.int (1 : Int32)), .val (.int ea), .val (.double r0), .second, .val (.int (0 : Int32)), .unset, .unset] [(.ref a0)])) rfl rfl (hb hby d6_18)
  have K31 : own_K p e below G0 T31 (mkF m 21 #[.val (.ref a0), .val (.ref a1), .val (.ref b3), .val (.int (1 : Int32)), .val (.int ea), .val (.double r0), .second, .val (.int (0 : Int32)), .unset, .unset] [(.ref pe)]) := fun t kt => K29 t (st31 _ kt)
  have K32 : own_K p e below G0 T31 (mkF m 22 #[.val (.ref a0), .val (.ref a1), .val (.ref b3), .val (.int (1 : Int32)), .val (.int ea), .val (.double r0), .second, .val (.int (0 : Int32)), .unset, .unset] [(.int (1 : Int32)), (.ref pe)]) := by
    intro t kt
    refine K31 t ?_
    refine XS.iloadN X31.here hx rfl (hb hby d6_21) rfl ?_
    show own_S p e below T31 (mkF m 22 _ [(.int (1 : Int32)), (.ref pe)]) _
    exact kt
  have f33 := (f11.other W24 ne_pe_b3)
  obtain ⟨cl34, Ar34, qq34, S34, M34, H34, GG34⟩ := id f33
  have hin34 : ¬ ((1 : Int32) < 0 ∨ cl34.slots.size ≤ ((1 : Int32)).toNatClampNeg) := inb_of S34 ⟨by decide, by decide⟩
  have hat34 : cl34.slots[((1 : Int32)).toNatClampNeg]? = some (.int eb) := Has.at H34 hin34 rfl
  have K35 : own_K p e below G0 T31 (mkF m 28 #[.val (.ref a0), .val (.ref a1), .val (.ref b3), .val (.int (1 : Int32)), .val (.int eb), .val (.double r0), .second, .val (.int (0 : Int32)), .unset, .unset] [(.int eb), (.ref a1)]) := by
    intro t kt
    refine K32 t ?_
    refine X31.iaload hx (j := (1 : Int32)) (v := (.int eb)) (by rw [e31]; exact (Ar34).1) (State.isArrayOf_alike hZ.alike (Ar34).2.1) (Ar34).2.2 hin34 hat34 (g := (mkF m 22 #[.val (.ref a0), .val (.ref a1), .val (.ref b3), .val (.int (1 : Int32)), .val (.int ea), .val (.double r0), .second, .val (.int (0 : Int32)), .unset, .unset] [(.int (1 : Int32)), (.ref pe)])) rfl rfl (hb hby d6_22) _ ?_
    show own_S p e below T31 (mkF m 23 _ [(.int eb)]) _
    refine XS.istore X31.here hx rfl (hb hby d6_23) rfl (l' := #[.val (.ref a0), .val (.ref a1), .val (.ref b3), .val (.int (1 : Int32)), .val (.int eb), .val (.double r0), .second, .val (.int (0 : Int32)), .unset, .unset]) rfl ?_
    show own_S p e below T31 (mkF m 25 _ []) _
    refine XS.aloadN X31.here hx rfl (hb hby d6_25) rfl rfl ?_
    show own_S p e below T31 (mkF m 26 _ [(.ref a1)]) _
    refine XS.iload X31.here hx rfl (hb hby d6_26) rfl ?_
    show own_S p e below T31 (mkF m 28 _ [(.int eb), (.ref a1)]) _
    exact kt
  have f36 := (f14.other W24 ne_a1_b3)
  obtain ⟨cl37, Ar37, qq37, S37, M37, H37, GG37⟩ := id f36
  have hin37 := inb_of S37 (own_in3 hRb)
  have hat37 : cl37.slots[(eb).toNatClampNeg]? = some (.double r1) := Has.at H37 hin37 ((own_g3 hRb).trans hq1)
  have K38 : own_K p e below G0 T31 (mkF m 37 #[.val (.ref a0), .val (.ref a1), .val (.ref b3), .val (.int (1 : Int32)), .val (.int eb), .val (.double r1), .second, .val (.int (0 : Int32)), .unset, .unset] [(.ref a0), (.int (0 : Int32))]) := by
    intro t kt
    refine K35 t ?_
    refine X31.daload hx (j := eb) (v := (.double r1)) (by rw [e31]; exact (Ar37).1) (State.isArrayOf_alike hZ.alike (Ar37).2.1) (Ar37).2.2 hin37 hat37 (g := (mkF m 28 #[.val (.ref a0), .val (.ref a1), .val (.ref b3), .val (.int (1 : Int32)), .val (.int eb), .val (.double r0), .second, .val (.int (0 : Int32)), .unset, .unset] [(.int eb), (.ref a1)])) rfl rfl (hb hby d6_28) _ ?_
    show own_S p e below T31 (mkF m 29 _ [(.double r1)]) _
    refine XS.dstore X31.here hx rfl (hb hby d6_29) rfl (l' := #[.val (.ref a0), .val (.ref a1), .val (.ref b3), .val (.int (1 : Int32)), .val (.int eb), .val (.double r1), .second, .val (.int (0 : Int32)), .unset, .unset]) rfl ?_
    show own_S p e below T31 (mkF m 31 _ []) _
    refine XS.iconst X31.here hx rfl (hb hby d6_31) ?_
    show own_S p e below T31 (mkF m 32 _ [(.int (0 : Int32))]) _
    refine XS.istore X31.here hx rfl (hb hby d6_32) rfl (l' := #[.val (.ref a0), .val (.ref a1), .val (.ref b3), .val (.int (1 : Int32)), .val (.int eb), .val (.double r1), .second, .val (.int (0 : Int32)), .unset, .unset]) rfl ?_
    show own_S p e below T31 (mkF m 34 _ []) _
    refine XS.iload X31.here hx rfl (hb hby d6_34) rfl ?_
    show own_S p e below T31 (mkF m 36 _ [(.int (0 : Int32))]) _
    refine XS.aloadN X31.here hx rfl (hb hby d6_36) rfl rfl ?_
    show own_S p e below T31 (mkF m 37 _ [(.ref a0), (.int (0 : Int32))]) _
    exact kt
  have f39 := (f17.other W24 (Or.inl ne_a0_b3))
  obtain ⟨T40, X40, e40, st40⟩ := getF X31 hx hZ hown (host := "") (Or.inl (hw _ (List.mem_of_getElem? (i := 26) rfl))) Via.refl e31 f39 (g := (mkF m 37 #[.val (.ref a0), .val (.ref a1), .val (.ref b3), .val (.int (1 : Int32)), .val (.int eb), .val (.double r1), .second, .val (.int (0 : Int32)), .unset, .unset] [(.ref a0), (.int (0 : Int32))])) rfl rfl (hb hby d6_37)
  have K40 : own_K p e below G0 T40 (mkF m 40 #[.val (.ref a0), .val (.ref a1), .val (.ref b3), .val (.int (1 : Int32)), .val (.int eb), .val (.double r1), .second, .val (.int (0 : Int32)), .unset, .unset] [(.ref ln), (.int (0 : Int32))]) := fun t kt => K38 t (st40 _ kt)
  have K41 : own_K p e below G0 T40 (mkF m 42 #[.val (.ref a0), .val (.ref a1), .val (.ref b3), .val (.int (1 : Int32)), .val (.int eb), .val (.double r1), .second, .val (.int (0 : Int32)), .unset, .unset] [(.int eb), (.ref ln), (.int (0 : Int32))]) := by
    intro t kt
    refine K40 t ?_
    refine XS.iload X40.here hx rfl (hb hby d6_40) rfl ?_
    show own_S p e below T40 (mkF m 42 _ [(.int eb), (.ref ln), (.int (0 : Int32))]) _
    exact kt
  have f42 := (f20.other W24 ne_ln_b3)
  obtain ⟨cl43, Ar43, qq43, S43, M43, H43, GG43⟩ := id f42
  have hin43 := inb_of S43 (own_in3 hRb)
  have hat43 : cl43.slots[(eb).toNatClampNeg]? = some (.int (1 : Int32)) := Has.at H43 hin43 ((own_g3 hRb).trans hl1)
  have K44 : own_K p e below G0 T40 (mkF m 49 #[.val (.ref a0), .val (.ref a1), .val (.ref b3), .val (.int (1 : Int32)), .val (.int eb), .val (.double r1), .second, .val (.int (0 : Int32)), .unset, .unset] [(.ref a0), (.double r1)]) := by
    intro t kt
    refine K41 t ?_
    refine X40.iaload hx (j := eb) (v := (.int (1 : Int32))) (by rw [e40]; exact (Ar43).1) (State.isArrayOf_alike hZ.alike (Ar43).2.1) (Ar43).2.2 hin43 hat43 (g := (mkF m 42 #[.val (.ref a0), .val (.ref a1), .val (.ref b3), .val (.int (1 : Int32)), .val (.int eb), .val (.double r1), .second, .val (.int (0 : Int32)), .unset, .unset] [(.int eb), (.ref ln), (.int (0 : Int32))])) rfl rfl (hb hby d6_42) _ ?_
    show own_S p e below T40 (mkF m 43 _ [(.int (1 : Int32)), (.int (0 : Int32))]) _
    refine XS.icmpNo X40.here hx rfl (hb hby d6_43) rfl (tlt (by decide)).2.1 ?_
    show own_S p e below T40 (mkF m 46 _ []) _
    refine XS.dload X40.here hx rfl (hb hby d6_46) rfl ?_
    show own_S p e below T40 (mkF m 48 _ [(.double r1)]) _
    refine XS.aloadN X40.here hx rfl (hb hby d6_48) rfl rfl ?_
    show own_S p e below T40 (mkF m 49 _ [(.ref a0), (.double r1)]) _
    exact kt
  have f45 := ((fc_5.ext E3).other W24 (Or.inl ne_a0_b3))
  obtain ⟨T46, X46, e46, st46⟩ := getF X40 hx hZ hown (host := "") (Or.inl (hw _ (List.mem_of_getElem? (i := 24) rfl))) Via.refl e40 f45 (g := (mkF m 49 #[.val (.ref a0), .val (.ref a1), .val (.ref b3), .val (.int (1 : Int32)), .val (.int eb), .val (.double r1), .second, .val (.int (0 : Int32)), .unset, .unset] [(.ref a0), (.double r1)])) rfl rfl (hb hby d6_49)
  have K46 : own_K p e below G0 T46 (mkF m 52 #[.val (.ref a0), .val (.ref a1), .val (.ref b3), .val (.int (1 : Int32)), .val (.int eb), .val (.double r1), .second, .val (.int (0 : Int32)), .unset, .unset] [(.ref ml), (.double r1)]) := fun t kt => K44 t (st46 _ kt)
  have K47 : own_K p e below G0 T46 (mkF m 54 #[.val (.ref a0), .val (.ref a1), .val (.ref b3), .val (.int (1 : Int32)), .val (.int eb), .val (.double r1), .second, .val (.int (0 : Int32)), .unset, .unset] [(.int eb), (.ref ml), (.double r1)]) := by
    intro t kt
    refine K46 t ?_
    refine XS.iload X46.here hx rfl (hb hby d6_52) rfl ?_
    show own_S p e below T46 (mkF m 54 _ [(.int eb), (.ref ml), (.double r1)]) _
    exact kt
  have f48 := ((fc_11.ext E3).other W24 ne_ml_b3)
  obtain ⟨cl49, Ar49, qq49, S49, M49, H49, GG49⟩ := id f48
  have hin49 := inb_of S49 (own_in3 hRb)
  have hat49 : cl49.slots[(eb).toNatClampNeg]? = some (.ref q2) := Has.at H49 hin49 ((own_g3 hRb).trans hfm)
  have K50 : own_K p e below G0 T46 (mkF m 57 #[.val (.ref a0), .val (.ref a1), .val (.ref b3), .val (.int (1 : Int32)), .val (.int eb), .val (.double r1), .second, .val (.int (0 : Int32)), .unset, .unset] [(.int (0 : Int32)), (.ref q2), (.double r1)]) := by
    intro t kt
    refine K47 t ?_
    refine X46.aaload hx (j := eb) (v := (.ref q2)) (by rw [e46]; exact (Ar49).1) (State.isArrayOf_alike hZ.alike (Ar49).2.1) rfl (Ar49).2.2 hin49 hat49 (g := (mkF m 54 #[.val (.ref a0), .val (.ref a1), .val (.ref b3), .val (.int (1 : Int32)), .val (.int eb), .val (.double r1), .second, .val (.int (0 : Int32)), .unset, .unset] [(.int eb), (.ref ml), (.double r1)])) rfl rfl (hb hby d6_54) _ ?_
    show own_S p e below T46 (mkF m 55 _ [(.ref q2), (.double r1)]) _
    refine XS.iload X46.here hx rfl (hb hby d6_55) rfl ?_
    show own_S p e below T46 (mkF m 57 _ [(.int (0 : Int32)), (.ref q2), (.double r1)]) _
    exact kt
  have f51 := ((V_q2.ext E3).other W24 ne_q2_b3)
  obtain ⟨cl52, Ar52, qq52, S52, M52, H52, GG52⟩ := id f51
  have hin52 : ¬ ((0 : Int32) < 0 ∨ cl52.slots.size ≤ ((0 : Int32)).toNatClampNeg) := inb_of S52 ⟨by decide, by decide⟩
  have hat52 : cl52.slots[((0 : Int32)).toNatClampNeg]? = some (.double dm) := Has.at H52 hin52 rfl
  have K53 : own_K p e below G0 T46 (mkF m 60 #[.val (.ref a0), .val (.ref a1), .val (.ref b3), .val (.int (1 : Int32)), .val (.int eb), .val (.double r1), .second, .val (.int (0 : Int32)), .unset, .unset] [(.ref a0), (.ref b3), (.double dm), (.double r1)]) := by
    intro t kt
    refine K50 t ?_
    refine X46.daload hx (j := (0 : Int32)) (v := (.double dm)) (by rw [e46]; exact (Ar52).1) (State.isArrayOf_alike hZ.alike (Ar52).2.1) (Ar52).2.2 hin52 hat52 (g := (mkF m 57 #[.val (.ref a0), .val (.ref a1), .val (.ref b3), .val (.int (1 : Int32)), .val (.int eb), .val (.double r1), .second, .val (.int (0 : Int32)), .unset, .unset] [(.int (0 : Int32)), (.ref q2), (.double r1)])) rfl rfl (hb hby d6_57) _ ?_
    show own_S p e below T46 (mkF m 58 _ [(.double dm), (.double r1)]) _
    refine XS.aloadN X46.here hx rfl (hb hby d6_58) rfl rfl ?_
    show own_S p e below T46 (mkF m 59 _ [(.ref b3), (.double dm), (.double r1)]) _
    refine XS.aloadN X46.here hx rfl (hb hby d6_59) rfl rfl ?_
    show own_S p e below T46 (mkF m 60 _ [(.ref a0), (.ref b3), (.double dm), (.double r1)]) _
    exact kt
  have f54 := ((fc_4.ext E3).other W24 (Or.inl ne_a0_b3))
  obtain ⟨T55, X55, e55, st55⟩ := getF X46 hx hZ hown (host := "") (Or.inl (hw _ (List.mem_of_getElem? (i := 20) rfl))) Via.refl e46 f54 (g := (mkF m 60 #[.val (.ref a0), .val (.ref a1), .val (.ref b3), .val (.int (1 : Int32)), .val (.int eb), .val (.double r1), .second, .val (.int (0 : Int32)), .unset, .unset] [(.ref a0), (.ref b3), (.double dm), (.double r1)])) rfl rfl (hb hby d6_60)
  have K55 : own_K p e below G0 T55 (mkF m 63 #[.val (.ref a0), .val (.ref a1), .val (.ref b3), .val (.int (1 : Int32)), .val (.int eb), .val (.double r1), .second, .val (.int (0 : Int32)), .unset, .unset] [(.ref rb), (.ref b3), (.double dm), (.double r1)]) := fun t kt => K53 t (st55 _ kt)
  have K56 : own_K p e below G0 T55 (mkF m 65 #[.val (.ref a0), .val (.ref a1), .val (.ref b3), .val (.int (1 : Int32)), .val (.int eb), .val (.double r1), .second, .val (.int (0 : Int32)), .unset, .unset] [(.int eb), (.ref rb), (.ref b3), (.double dm), (.double r1)]) := by
    intro t kt
    refine K55 t ?_
    refine XS.iload X55.here hx rfl (hb hby d6_63) rfl ?_
    show own_S p e below T55 (mkF m 65 _ [(.int eb), (.ref rb), (.ref b3), (.double dm), (.double r1)]) _
    exact kt
  have f57 := ((fc_10.ext E3).other W24 ne_rb_b3)
  obtain ⟨cl58, Ar58, qq58, S58, M58, H58, GG58⟩ := id f57
  have hin58 := inb_of S58 (own_in3 hRb)
  have hat58 : cl58.slots[(eb).toNatClampNeg]? = some (.ref q1) := Has.at H58 hin58 ((own_g3 hRb).trans hfr)
  have K59 : own_K p e below G0 T55 (mkF m 68 #[.val (.ref a0), .val (.ref a1), .val (.ref b3), .val (.int (1 : Int32)), .val (.int eb), .val (.double r1), .second, .val (.int (0 : Int32)), .unset, .unset] [(.int (0 : Int32)), (.ref q1), (.ref b3), (.double dm), (.double r1)]) := by
    intro t kt
    refine K56 t ?_
    refine X55.aaload hx (j := eb) (v := (.ref q1)) (by rw [e55]; exact (Ar58).1) (State.isArrayOf_alike hZ.alike (Ar58).2.1) rfl (Ar58).2.2 hin58 hat58 (g := (mkF m 65 #[.val (.ref a0), .val (.ref a1), .val (.ref b3), .val (.int (1 : Int32)), .val (.int eb), .val (.double r1), .second, .val (.int (0 : Int32)), .unset, .unset] [(.int eb), (.ref rb), (.ref b3), (.double dm), (.double r1)])) rfl rfl (hb hby d6_65) _ ?_
    show own_S p e below T55 (mkF m 66 _ [(.ref q1), (.ref b3), (.double dm), (.double r1)]) _
    refine XS.iload X55.here hx rfl (hb hby d6_66) rfl ?_
    show own_S p e below T55 (mkF m 68 _ [(.int (0 : Int32)), (.ref q1), (.ref b3), (.double dm), (.double r1)]) _
    exact kt
  have f60 := ((V_q1.ext E3).other W24 ne_q1_b3)
  obtain ⟨cl61, Ar61, qq61, S61, M61, H61, GG61⟩ := id f60
  have hin61 : ¬ ((0 : Int32) < 0 ∨ cl61.slots.size ≤ ((0 : Int32)).toNatClampNeg) := inb_of S61 ⟨by decide, by decide⟩
  have hat61 : cl61.slots[((0 : Int32)).toNatClampNeg]? = some (.int (0 : Int32)) := Has.at H61 hin61 rfl
  have K62 : own_K p e below G0 T55 (mkF m 69 #[.val (.ref a0), .val (.ref a1), .val (.ref b3), .val (.int (1 : Int32)), .val (.int eb), .val (.double r1), .second, .val (.int (0 : Int32)), .unset, .unset] [(.int (0 : Int32)), (.ref b3), (.double dm), (.double r1)]) := by
    intro t kt
    refine K59 t ?_
    refine X55.iaload hx (j := (0 : Int32)) (v := (.int (0 : Int32))) (by rw [e55]; exact (Ar61).1) (State.isArrayOf_alike hZ.alike (Ar61).2.1) (Ar61).2.2 hin61 hat61 (g := (mkF m 68 #[.val (.ref a0), .val (.ref a1), .val (.ref b3), .val (.int (1 : Int32)), .val (.int eb), .val (.double r1), .second, .val (.int (0 : Int32)), .unset, .unset] [(.int (0 : Int32)), (.ref q1), (.ref b3), (.double dm), (.double r1)])) rfl rfl (hb hby d6_68) _ ?_
    show own_S p e below T55 (mkF m 69 _ [(.int (0 : Int32)), (.ref b3), (.double dm), (.double r1)]) _
    exact kt
  obtain ⟨cl63, Ar63, qq63, S63, M63, H63, GG63⟩ := id VL24
  have hin63 : ¬ ((0 : Int32) < 0 ∨ cl63.slots.size ≤ ((0 : Int32)).toNatClampNeg) := inb_of S63 ⟨by decide, by decide⟩
  have hat63 : cl63.slots[((0 : Int32)).toNatClampNeg]? = some (.double r0) := Has.at H63 hin63 rfl
  have K64 : own_K p e below G0 T55 (mkF m 77 #[.val (.ref a0), .val (.ref a1), .val (.ref b3), .val (.int (1 : Int32)), .val (.int eb), .val (.double (FP.dsub r1 (FP.dmul dm r0))), .second, .val (.int ((0 : Int32) + (1 : Int32))), .unset, .unset] []) := by
    intro t kt
    refine K62 t ?_
    refine X55.daload hx (j := (0 : Int32)) (v := (.double r0)) (by rw [e55]; exact (Ar63).1) (State.isArrayOf_alike hZ.alike (Ar63).2.1) (Ar63).2.2 hin63 hat63 (g := (mkF m 69 #[.val (.ref a0), .val (.ref a1), .val (.ref b3), .val (.int (1 : Int32)), .val (.int eb), .val (.double r1), .second, .val (.int (0 : Int32)), .unset, .unset] [(.int (0 : Int32)), (.ref b3), (.double dm), (.double r1)])) rfl rfl (hb hby d6_69) _ ?_
    show own_S p e below T55 (mkF m 70 _ [(.double r0), (.double dm), (.double r1)]) _
    refine XS.dmulS X55.here hx rfl (hb hby d6_70) rfl (own_V_nonan qa) rfl ?_
    show own_S p e below T55 (mkF m 71 _ [(.double (FP.dmul dm r0)), (.double r1)]) _
    refine XS.dsubS X55.here hx rfl (hb hby d6_71) rfl (own_V_nonan qb) rfl ?_
    show own_S p e below T55 (mkF m 72 _ [(.double (FP.dsub r1 (FP.dmul dm r0)))]) _
    refine XS.dstore X55.here hx rfl (hb hby d6_72) rfl (l' := #[.val (.ref a0), .val (.ref a1), .val (.ref b3), .val (.int (1 : Int32)), .val (.int eb), .val (.double (FP.dsub r1 (FP.dmul dm r0))), .second, .val (.int (0 : Int32)), .unset, .unset]) rfl ?_
    show own_S p e below T55 (mkF m 74 _ []) _
    refine XS.iinc X55.here hx rfl (hb hby d6_74) rfl (l' := #[.val (.ref a0), .val (.ref a1), .val (.ref b3), .val (.int (1 : Int32)), .val (.int eb), .val (.double (FP.dsub r1 (FP.dmul dm r0))), .second, .val (.int ((0 : Int32) + (1 : Int32))), .unset, .unset]) rfl ?_
    show own_S p e below T55 (mkF m 77 _ []) _
    exact kt
  rw [show ((0 : Int32) + (1 : Int32)) = (1 : Int32) from by decide] at K64
  have K65 : own_K p e below G0 T55 (mkF m 37 #[.val (.ref a0), .val (.ref a1), .val (.ref b3), .val (.int (1 : Int32)), .val (.int eb), .val (.double (FP.dsub r1 (FP.dmul dm r0))), .second, .val (.int (1 : Int32)), .unset, .unset] [(.ref a0), (.int (1 : Int32))]) := by
    intro t kt
    refine K64 t ?_
    refine XS.goto X55.here hx rfl (pc0 := 77) (pc' := 34) rfl (hb hby d6_77) (by decide) (by decide) ?_
    show own_S p e below T55 (mkF m 34 _ []) _
    refine XS.iload X55.here hx rfl (hb hby d6_34) rfl ?_
    show own_S p e below T55 (mkF m 36 _ [(.int (1 : Int32))]) _
    refine XS.aloadN X55.here hx rfl (hb hby d6_36) rfl rfl ?_
    show own_S p e below T55 (mkF m 37 _ [(.ref a0), (.int (1 : Int32))]) _
    exact kt
  obtain ⟨T66, X66, e66, st66⟩ := getF X55 hx hZ hown (host := "") (Or.inl (hw _ (List.mem_of_getElem? (i := 26) rfl))) Via.refl e55 f39 (g := (mkF m 37 #[.val (.ref a0), .val (.ref a1), .val (.ref b3), .val (.int (1 : Int32)), .val (.int eb), .val (.double (FP.dsub r1 (FP.dmul dm r0))), .second, .val (.int (1 : Int32)), .unset, .unset] [(.ref a0), (.int (1 : Int32))])) rfl rfl (hb hby d6_37)
  have K66 : own_K p e below G0 T66 (mkF m 40 #[.val (.ref a0), .val (.ref a1), .val (.ref b3), .val (.int (1 : Int32)), .val (.int eb), .val (.double (FP.dsub r1 (FP.dmul dm r0))), .second, .val (.int (1 : Int32)), .unset, .unset] [(.ref ln), (.int (1 : Int32))]) := fun t kt => K65 t (st66 _ kt)
  have K67 : own_K p e below G0 T66 (mkF m 42 #[.val (.ref a0), .val (.ref a1), .val (.ref b3), .val (.int (1 : Int32)), .val (.int eb), .val (.double (FP.dsub r1 (FP.dmul dm r0))), .second, .val (.int (1 : Int32)), .unset, .unset] [(.int eb), (.ref ln), (.int (1 : Int32))]) := by
    intro t kt
    refine K66 t ?_
    refine XS.iload X66.here hx rfl (hb hby d6_40) rfl ?_
    show own_S p e below T66 (mkF m 42 _ [(.int eb), (.ref ln), (.int (1 : Int32))]) _
    exact kt
  obtain ⟨cl68, Ar68, qq68, S68, M68, H68, GG68⟩ := id f42
  have hin68 := inb_of S68 (own_in3 hRb)
  have hat68 : cl68.slots[(eb).toNatClampNeg]? = some (.int (1 : Int32)) := Has.at H68 hin68 ((own_g3 hRb).trans hl1)
  have K69 : own_K p e below G0 T66 (mkF m 84 #[.val (.ref a0), .val (.ref a1), .val (.ref b3), .val (.int (1 : Int32)), .val (.int eb), .val (.double (FP.dsub r1 (FP.dmul dm r0))), .second, .val (.int (1 : Int32)), .unset, .unset] [(.double (FP.dsub r1 (FP.dmul dm r0))), (.int (1 : Int32)), (.ref b3)]) := by
    intro t kt
    refine K67 t ?_
    refine X66.iaload hx (j := eb) (v := (.int (1 : Int32))) (by rw [e66]; exact (Ar68).1) (State.isArrayOf_alike hZ.alike (Ar68).2.1) (Ar68).2.2 hin68 hat68 (g := (mkF m 42 #[.val (.ref a0), .val (.ref a1), .val (.ref b3), .val (.int (1 : Int32)), .val (.int eb), .val (.double (FP.dsub r1 (FP.dmul dm r0))), .second, .val (.int (1 : Int32)), .unset, .unset] [(.int eb), (.ref ln), (.int (1 : Int32))])) rfl rfl (hb hby d6_42) _ ?_
    show own_S p e below T66 (mkF m 43 _ [(.int (1 : Int32)), (.int (1 : Int32))]) _
    refine XS.icmpYes X66.here hx rfl (pc0 := 43) (pc' := 80) rfl (hb hby d6_43) rfl (flt (by decide)).2.1 (by decide) (by decide) ?_
    show own_S p e below T66 (mkF m 80 _ []) _
    refine XS.aloadN X66.here hx rfl (hb hby d6_80) rfl rfl ?_
    show own_S p e below T66 (mkF m 81 _ [(.ref b3)]) _
    refine XS.iloadN X66.here hx rfl (hb hby d6_81) rfl ?_
    show own_S p e below T66 (mkF m 82 _ [(.int (1 : Int32)), (.ref b3)]) _
    refine XS.dload X66.here hx rfl (hb hby d6_82) rfl ?_
    show own_S p e below T66 (mkF m 84 _ [(.double (FP.dsub r1 (FP.dmul dm r0))), (.int (1 : Int32)), (.ref b3)]) _
    exact kt
  obtain ⟨cl70, Ar70, qq70, S70, M70, H70, GG70⟩ := id VL24
  have hin70 : ¬ ((1 : Int32) < 0 ∨ cl70.slots.size ≤ ((1 : Int32)).toNatClampNeg) := inb_of S70 ⟨by decide, by decide⟩
  obtain ⟨T71, h71, X71, e71, W71, st71⟩ := stD X66 hx hZ e66 Ar70 (j := (1 : Int32)) hin70 (g := (mkF m 84 #[.val (.ref a0), .val (.ref a1), .val (.ref b3), .val (.int (1 : Int32)), .val (.int eb), .val (.double (FP.dsub r1 (FP.dmul dm r0))), .second, .val (.int (1 : Int32)), .unset, .unset] [(.double (FP.dsub r1 (FP.dmul dm r0))), (.int (1 : Int32)), (.ref b3)])) rfl rfl (hb hby d6_84)
  have K71 : own_K p e below G0 T71 (mkF m 85 #[.val (.ref a0), .val (.ref a1), .val (.ref b3), .val (.int (1 : Int32)), .val (.int eb), .val (.double (FP.dsub r1 (FP.dmul dm r0))), .second, .val (.int (1 : Int32)), .unset, .unset] []) := fun t kt => K69 t (st71 _ kt)
  have Z71 : n0 ≤ h71.size := Nat.le_trans Z24 (Keep.of_wr W71).1
  have VL71 : Arv Z h71 b3 k3 .double (2 : Int32) [(.double r0), (.double (FP.dsub r1 (FP.dmul dm r0)))] (.double 0) := Arv.set Ar70 qq70 S70 M70 H70 GG70 rfl W71 1 rfl (Nat.le_of_ble_eq_true rfl)
  have N71 := Fr.snoc X71 N24 gn3
  have K72 : own_K p e below G0 T71 (mkF m 88 #[.val (.ref a0), .val (.ref a1), .val (.ref b3), .val (.int ((1 : Int32) + (1 : Int32))), .val (.int eb), .val (.double (FP.dsub r1 (FP.dmul dm r0))), .second, .val (.int (1 : Int32)), .unset, .unset] []) := by
    intro t kt
    refine K71 t ?_
    refine XS.iinc X71.here hx rfl (hb hby d6_85) rfl (l' := #[.val (.ref a0), .val (.ref a1), .val (.ref b3), .val (.int ((1 : Int32) + (1 : Int32))), .val (.int eb), .val (.double (FP.dsub r1 (FP.dmul dm r0))), .second, .val (.int (1 : Int32)), .unset, .unset]) rfl ?_
    show own_S p e below T71 (mkF m 88 _ []) _
    exact kt
  rw [show ((1 : Int32) + (1 : Int32)) = (2 : Int32) from by decide] at K72
  have K73 : own_K p e below G0 T71 (mkF m 11 #[.val (.ref a0), .val (.ref a1), .val (.ref b3), .val (.int (2 : Int32)), .val (.int eb), .val (.double (FP.dsub r1 (FP.dmul dm r0))), .second, .val (.int (1 : Int32)), .unset, .unset] [(.ref a0), (.int (2 : Int32))]) := by
    intro t kt
    refine K72 t ?_
    refine XS.goto X71.here hx rfl (pc0 := 88) (pc' := 9) rfl (hb hby d6_88) (by decide) (by decide) ?_
    show own_S p e below T71 (mkF m 9 _ []) _
    refine XS.iloadN X71.here hx rfl (hb hby d6_9) rfl ?_
    show own_S p e below T71 (mkF m 10 _ [(.int (2 : Int32))]) _
    refine XS.aloadN X71.here hx rfl (hb hby d6_10) rfl rfl ?_
    show own_S p e below T71 (mkF m 11 _ [(.ref a0), (.int (2 : Int32))]) _
    exact kt
  have f74 := (f27.other W71 (Or.inl ne_a0_b3))
  obtain ⟨T75, X75, e75, st75⟩ := getF X71 hx hZ hown (host := "") (Or.inl (hw _ (List.mem_of_getElem? (i := 43) rfl))) Via.refl e71 f74 (g := (mkF m 11 #[.val (.ref a0), .val (.ref a1), .val (.ref b3), .val (.int (2 : Int32)), .val (.int eb), .val (.double (FP.dsub r1 (FP.dmul dm r0))), .second, .val (.int (1 : Int32)), .unset, .unset] [(.ref a0), (.int (2 : Int32))])) rfl rfl (hb hby d6_11)
  have K75 : own_K p e below G0 T75 (mkF m 14 #[.val (.ref a0), .val (.ref a1), .val (.ref b3), .val (.int (2 : Int32)), .val (.int eb), .val (.double (FP.dsub r1 (FP.dmul dm r0))), .second, .val (.int (1 : Int32)), .unset, .unset] [(.int (2 : Int32)), (.int (2 : Int32))]) := fun t kt => K73 t (st75 _ kt)
  have K76 : own_K p e below G0 T75 (mkF m 92 #[.val (.ref a0), .val (.ref a1), .val (.ref b3), .val (.int (2 : Int32)), .val (.int eb), .val (.double (FP.dsub r1 (FP.dmul dm r0))), .second, .val (.int (1 : Int32)), .unset, .unset] [(.ref a0)]) := by
    intro t kt
    refine K75 t ?_
    refine XS.icmpYes X75.here hx rfl (pc0 := 14) (pc' := 91) rfl (hb hby d6_14) rfl (flt (by decide)).2.1 (by decide) (by decide) ?_
    show own_S p e below T75 (mkF m 91 _ []) _
    refine XS.aloadN X75.here hx rfl (hb hby d6_91) rfl rfl ?_
    show own_S p e below T75 (mkF m 92 _ [(.ref a0)]) _
    exact kt
  have f77 := (((fc_1.ext E3).other W24 (Or.inl ne_a0_b3)).other W71 (Or.inl ne_a0_b3))
  obtain ⟨T78, X78, e78, st78⟩ := getF X75 hx hZ hown (host := "") (Or.inl (hw _ (List.mem_of_getElem? (i := 14) rfl))) Via.refl e75 f77 (g := (mkF m 92 #[.val (.ref a0), .val (.ref a1), .val (.ref b3), .val (.int (2 : Int32)), .val (.int eb), .val (.double (FP.dsub r1 (FP.dmul dm r0))), .second, .val (.int (1 : Int32)), .unset, .unset] [(.ref a0)])) rfl rfl (hb hby d6_92)
  have K78 : own_K p e below G0 T78 (mkF m 95 #[.val (.ref a0), .val (.ref a1), .val (.ref b3), .val (.int (2 : Int32)), .val (.int eb), .val (.double (FP.dsub r1 (FP.dmul dm r0))), .second, .val (.int (1 : Int32)), .unset, .unset] [(.int (3 : Int32))]) := fun t kt => K76 t (st78 _ kt)
  have f79 := (((fc_0.ext E3).wr W24).wr W71)
  have f80 := (f57.other W71 ne_rb_b3)
  have f81 := (f48.other W71 ne_ml_b3)
  have f82 := (f42.other W71 ne_ln_b3)
  have f83 := (f33.other W71 ne_pe_b3)
  have f84 := (((fc_14.ext E3).other W24 ne_pu_b3).other W71 ne_pu_b3)
  have f85 := (((fc_15.ext E3).other W24 ne_pc_b3).other W71 ne_pc_b3)
  have f86 := (f36.other W71 ne_a1_b3)
  have f87 := (((V_ra.ext E3).other W24 ne_ra_b3).other W71 ne_ra_b3)
  have f88 := (((V_ca.ext E3).other W24 ne_ca_b3).other W71 ne_ca_b3)
  have f89 := (((V_rc.ext E3).other W24 ne_rc_b3).other W71 ne_rc_b3)
  have f90 := (((V_cc.ext E3).other W24 ne_cc_b3).other W71 ne_cc_b3)
  have f91 := (f60.other W71 ne_q1_b3)
  have f92 := (f51.other W71 ne_q2_b3)
  obtain ⟨T93, h93, k93, X93, e93, E93, A93, st93⟩ := newP X78 hx hZ (hw _ (List.mem_of_getElem? (i := 4) rfl)) e78 (g := (mkF m 95 #[.val (.ref a0), .val (.ref a1), .val (.ref b3), .val (.int (2 : Int32)), .val (.int eb), .val (.double (FP.dsub r1 (FP.dmul dm r0))), .second, .val (.int (1 : Int32)), .unset, .unset] [(.int (3 : Int32))])) rfl (hb hby d6_95) rfl (by decide) (cap := 3) (by decide) (by decide) (by decide) (by decide)
  obtain ⟨b93, g93⟩ : ∃ z, z = h71.size := ⟨_, rfl⟩
  rw [← g93] at A93 st93
  have V93 := Arv.new A93 (by decide)
  have gn93 : n0 ≤ b93 := Nat.le_trans Z71 (Nat.le_of_eq g93.symm)
  have Z93 : n0 ≤ h93.size := Nat.le_trans Z71 E93.1
  have K93 : own_K p e below G0 T93 (mkF m 97 #[.val (.ref a0), .val (.ref a1), .val (.ref b3), .val (.int (2 : Int32)), .val (.int eb), .val (.double (FP.dsub r1 (FP.dmul dm r0))), .second, .val (.int (1 : Int32)), .unset, .unset] [(.ref b93)]) := fun t kt => K78 t (st93 _ kt)
  have ne_a0_b93 : a0 ≠ b93 := Nat.ne_of_lt (Nat.lt_of_lt_of_le (f79).lt (Nat.le_of_eq g93.symm))
  have ne_rb_b93 : rb ≠ b93 := Nat.ne_of_lt (Nat.lt_of_lt_of_le (f80).lt (Nat.le_of_eq g93.symm))
  have ne_ml_b93 : ml ≠ b93 := Nat.ne_of_lt (Nat.lt_of_lt_of_le (f81).lt (Nat.le_of_eq g93.symm))
  have ne_ln_b93 : ln ≠ b93 := Nat.ne_of_lt (Nat.lt_of_lt_of_le (f82).lt (Nat.le_of_eq g93.symm))
  have ne_pe_b93 : pe ≠ b93 := Nat.ne_of_lt (Nat.lt_of_lt_of_le (f83).lt (Nat.le_of_eq g93.symm))
  have ne_pu_b93 : pu ≠ b93 := Nat.ne_of_lt (Nat.lt_of_lt_of_le (f84).lt (Nat.le_of_eq g93.symm))
  have ne_pc_b93 : pc ≠ b93 := Nat.ne_of_lt (Nat.lt_of_lt_of_le (f85).lt (Nat.le_of_eq g93.symm))
  have ne_a1_b93 : a1 ≠ b93 := Nat.ne_of_lt (Nat.lt_of_lt_of_le (f86).lt (Nat.le_of_eq g93.symm))
  have ne_ra_b93 : ra ≠ b93 := Nat.ne_of_lt (Nat.lt_of_lt_of_le (f87).lt (Nat.le_of_eq g93.symm))
  have ne_ca_b93 : ca ≠ b93 := Nat.ne_of_lt (Nat.lt_of_lt_of_le (f88).lt (Nat.le_of_eq g93.symm))
  have ne_rc_b93 : rc ≠ b93 := Nat.ne_of_lt (Nat.lt_of_lt_of_le (f89).lt (Nat.le_of_eq g93.symm))
  have ne_cc_b93 : cc ≠ b93 := Nat.ne_of_lt (Nat.lt_of_lt_of_le (f90).lt (Nat.le_of_eq g93.symm))
  have ne_q1_b93 : q1 ≠ b93 := Nat.ne_of_lt (Nat.lt_of_lt_of_le (f91).lt (Nat.le_of_eq g93.symm))
  have ne_q2_b93 : q2 ≠ b93 := Nat.ne_of_lt (Nat.lt_of_lt_of_le (f92).lt (Nat.le_of_eq g93.symm))
  have ne_b3_b93 : b3 ≠ b93 := Nat.ne_of_lt (Nat.lt_of_lt_of_le (VL71).lt (Nat.le_of_eq g93.symm))
  have VL93 : Arv Z h93 b93 k93 .double (3 : Int32) [(.double 0), (.double 0), (.double 0)] (.double 0) := V93.pad (pad_rep [] (.double 0) 3)
  have VSb93 : Arv Z h93 b93 k93 .double (3 : Int32) (own_l3 (fun _ => (.double 0))) (.double 0) := VL93
  have K94 : own_K p e below G0 T93 (mkF m 99 #[.val (.ref a0), .val (.ref a1), .val (.ref b3), .val (.ref b93), .val (.int eb), .val (.double (FP.dsub r1 (FP.dmul dm r0))), .second, .val (.int (1 : Int32)), .unset, .unset] [(.ref a0)]) := by
    intro t kt
    refine K93 t ?_
    refine XS.astoreN X93.here hx rfl (hb hby d6_97) rfl rfl (l' := #[.val (.ref a0), .val (.ref a1), .val (.ref b3), .val (.ref b93), .val (.int eb), .val (.double (FP.dsub r1 (FP.dmul dm r0))), .second, .val (.int (1 : Int32)), .unset, .unset]) rfl ?_
    show own_S p e below T93 (mkF m 98 _ []) _
    refine XS.aloadN X93.here hx rfl (hb hby d6_98) rfl rfl ?_
    show own_S p e below T93 (mkF m 99 _ [(.ref a0)]) _
    exact kt
  have f95 := (f74.ext E93)
  obtain ⟨T96, X96, e96, st96⟩ := getF X93 hx hZ hown (host := "") (Or.inl (hw _ (List.mem_of_getElem? (i := 43) rfl))) Via.refl e93 f95 (g := (mkF m 99 #[.val (.ref a0), .val (.ref a1), .val (.ref b3), .val (.ref b93), .val (.int eb), .val (.double (FP.dsub r1 (FP.dmul dm r0))), .second, .val (.int (1 : Int32)), .unset, .unset] [(.ref a0)])) rfl rfl (hb hby d6_99)
  have K96 : own_K p e below G0 T96 (mkF m 102 #[.val (.ref a0), .val (.ref a1), .val (.ref b3), .val (.ref b93), .val (.int eb), .val (.double (FP.dsub r1 (FP.dmul dm r0))), .second, .val (.int (1 : Int32)), .unset, .unset] [(.int (2 : Int32))]) := fun t kt => K94 t (st96 _ kt)
  have K97 : own_K p e below G0 T96 (mkF m 106 #[.val (.ref a0), .val (.ref a1), .val (.ref b3), .val (.ref b93), .val (.int ((2 : Int32) - (1 : Int32))), .val (.double (FP.dsub r1 (FP.dmul dm r0))), .second, .val (.int (1 : Int32)), .unset, .unset] []) := by
    intro t kt
    refine K96 t ?_
    refine XS.iconst X96.here hx rfl (hb hby d6_102) ?_
    show own_S p e below T96 (mkF m 103 _ [(.int (1 : Int32)), (.int (2 : Int32))]) _
    refine XS.isub X96.here hx rfl (hb hby d6_103) rfl ?_
    show own_S p e below T96 (mkF m 104 _ [(.int ((2 : Int32) - (1 : Int32)))]) _
    refine XS.istore X96.here hx rfl (hb hby d6_104) rfl (l' := #[.val (.ref a0), .val (.ref a1), .val (.ref b3), .val (.ref b93), .val (.int ((2 : Int32) - (1 : Int32))), .val (.double (FP.dsub r1 (FP.dmul dm r0))), .second, .val (.int (1 : Int32)), .unset, .unset]) rfl ?_
    show own_S p e below T96 (mkF m 106 _ []) _
    exact kt
  rw [show ((2 : Int32) - (1 : Int32)) = (1 : Int32) from by decide] at K97
  have K98 : own_K p e below G0 T96 (mkF m 112 #[.val (.ref a0), .val (.ref a1), .val (.ref b3), .val (.ref b93), .val (.int (1 : Int32)), .val (.double (FP.dsub r1 (FP.dmul dm r0))), .second, .val (.int (1 : Int32)), .unset, .unset] [(.ref a0)]) := by
    intro t kt
    refine K97 t ?_
    refine XS.iload X96.here hx rfl (hb hby d6_106) rfl ?_
    show own_S p e below T96 (mkF m 108 _ [(.int (1 : Int32))]) _
    refine XS.ifNo X96.here hx rfl (hb hby d6_108) rfl ((if0 _ _).trans (flt (by decide)).1) ?_
    show own_S p e below T96 (mkF m 111 _ []) _
    refine XS.aloadN X96.here hx rfl (hb hby d6_111) rfl rfl ?_
    show own_S p e below T96 (mkF m 112 _ [(.ref a0)]) _
    exact kt
  have f99 := ((((fc_8.ext E3).other W24 (Or.inl ne_a0_b3)).other W71 (Or.inl ne_a0_b3)).ext E93)
  obtain ⟨T100, X100, e100, st100⟩ := getF X96 hx hZ hown (host := "") (Or.inl (hw _ (List.mem_of_getElem? (i := 34) rfl))) Via.refl e96 f99 (g := (mkF m 112 #[.val (.ref a0), .val (.ref a1), .val (.ref b3), .val (.ref b93), .val (.int (1 : Int32)), .val (.double (FP.dsub r1 (FP.dmul dm r0))), .second, .val (.int (1 : Int32)), .unset, .unset] [(.ref a0)])) rfl rfl (hb hby d6_112)
  have K100 : own_K p e below G0 T100 (mkF m 115 #[.val (.ref a0), .val (.ref a1), .val (.ref b3), .val (.ref b93), .val (.int (1 : Int32)), .val (.double (FP.dsub r1 (FP.dmul dm r0))), .second, .val (.int (1 : Int32)), .unset, .unset] [(.ref pu)]) := fun t kt => K98 t (st100 _ kt)
  have K101 : own_K p e below G0 T100 (mkF m 117 #[.val (.ref a0), .val (.ref a1), .val (.ref b3), .val (.ref b93), .val (.int (1 : Int32)), .val (.double (FP.dsub r1 (FP.dmul dm r0))), .second, .val (.int (1 : Int32)), .unset, .unset] [(.int (1 : Int32)), (.ref pu)]) := by
    intro t kt
    refine K100 t ?_
    refine XS.iload X100.here hx rfl (hb hby d6_115) rfl ?_
    show own_S p e below T100 (mkF m 117 _ [(.int (1 : Int32)), (.ref pu)]) _
    exact kt
  have f102 := (f84.ext E93)
  obtain ⟨cl103, Ar103, qq103, S103, M103, H103, GG103⟩ := id f102
  have hin103 : ¬ ((1 : Int32) < 0 ∨ cl103.slots.size ≤ ((1 : Int32)).toNatClampNeg) := inb_of S103 ⟨by decide, by decide⟩
  have hat103 : cl103.slots[((1 : Int32)).toNatClampNeg]? = some (.ref rc) := Has.at H103 hin103 rfl
  have K104 : own_K p e below G0 T100 (mkF m 121 #[.val (.ref a0), .val (.ref a1), .val (.ref b3), .val (.ref b93), .val (.int (1 : Int32)), .val (.ref rc), .unset, .val (.int (1 : Int32)), .unset, .unset] [(.ref a0)]) := by
    intro t kt
    refine K101 t ?_
    refine X100.aaload hx (j := (1 : Int32)) (v := (.ref rc)) (by rw [e100]; exact (Ar103).1) (State.isArrayOf_alike hZ.alike (Ar103).2.1) rfl (Ar103).2.2 hin103 hat103 (g := (mkF m 117 #[.val (.ref a0), .val (.ref a1), .val (.ref b3), .val (.ref b93), .val (.int (1 : Int32)), .val (.double (FP.dsub r1 (FP.dmul dm r0))), .second, .val (.int (1 : Int32)), .unset, .unset] [(.int (1 : Int32)), (.ref pu)])) rfl rfl (hb hby d6_117) _ ?_
    show own_S p e below T100 (mkF m 118 _ [(.ref rc)]) _
    refine XS.astore X100.here hx rfl (hb hby d6_118) rfl rfl (l' := #[.val (.ref a0), .val (.ref a1), .val (.ref b3), .val (.ref b93), .val (.int (1 : Int32)), .val (.ref rc), .unset, .val (.int (1 : Int32)), .unset, .unset]) rfl ?_
    show own_S p e below T100 (mkF m 120 _ []) _
    refine XS.aloadN X100.here hx rfl (hb hby d6_120) rfl rfl ?_
    show own_S p e below T100 (mkF m 121 _ [(.ref a0)]) _
    exact kt
  have f105 := ((((fc_9.ext E3).other W24 (Or.inl ne_a0_b3)).other W71 (Or.inl ne_a0_b3)).ext E93)
  obtain ⟨T106, X106, e106, st106⟩ := getF X100 hx hZ hown (host := "") (Or.inl (hw _ (List.mem_of_getElem? (i := 36) rfl))) Via.refl e100 f105 (g := (mkF m 121 #[.val (.ref a0), .val (.ref a1), .val (.ref b3), .val (.ref b93), .val (.int (1 : Int32)), .val (.ref rc), .unset, .val (.int (1 : Int32)), .unset, .unset] [(.ref a0)])) rfl rfl (hb hby d6_121)
  have K106 : own_K p e below G0 T106 (mkF m 124 #[.val (.ref a0), .val (.ref a1), .val (.ref b3), .val (.ref b93), .val (.int (1 : Int32)), .val (.ref rc), .unset, .val (.int (1 : Int32)), .unset, .unset] [(.ref pc)]) := fun t kt => K104 t (st106 _ kt)
  have K107 : own_K p e below G0 T106 (mkF m 126 #[.val (.ref a0), .val (.ref a1), .val (.ref b3), .val (.ref b93), .val (.int (1 : Int32)), .val (.ref rc), .unset, .val (.int (1 : Int32)), .unset, .unset] [(.int (1 : Int32)), (.ref pc)]) := by
    intro t kt
    refine K106 t ?_
    refine XS.iload X106.here hx rfl (hb hby d6_124) rfl ?_
    show own_S p e below T106 (mkF m 126 _ [(.int (1 : Int32)), (.ref pc)]) _
    exact kt
  have f108 := (f85.ext E93)
  obtain ⟨cl109, Ar109, qq109, S109, M109, H109, GG109⟩ := id f108
  have hin109 : ¬ ((1 : Int32) < 0 ∨ cl109.slots.size ≤ ((1 : Int32)).toNatClampNeg) := inb_of S109 ⟨by decide, by decide⟩
  have hat109 : cl109.slots[((1 : Int32)).toNatClampNeg]? = some (.ref cc) := Has.at H109 hin109 rfl
  have K110 : own_K p e below G0 T106 (mkF m 132 #[.val (.ref a0), .val (.ref a1), .val (.ref b3), .val (.ref b93), .val (.int (1 : Int32)), .val (.ref rc), .val (.ref cc), .val (.int (1 : Int32)), .unset, .unset] [(.int (1 : Int32)), (.ref b3)]) := by
    intro t kt
    refine K107 t ?_
    refine X106.aaload hx (j := (1 : Int32)) (v := (.ref cc)) (by rw [e106]; exact (Ar109).1) (State.isArrayOf_alike hZ.alike (Ar109).2.1) rfl (Ar109).2.2 hin109 hat109 (g := (mkF m 126 #[.val (.ref a0), .val (.ref a1), .val (.ref b3), .val (.ref b93), .val (.int (1 : Int32)), .val (.ref rc), .unset, .val (.int (1 : Int32)), .unset, .unset] [(.int (1 : Int32)), (.ref pc)])) rfl rfl (hb hby d6_126) _ ?_
    show own_S p e below T106 (mkF m 127 _ [(.ref cc)]) _
    refine XS.astore X106.here hx rfl (hb hby d6_127) rfl rfl (l' := #[.val (.ref a0), .val (.ref a1), .val (.ref b3), .val (.ref b93), .val (.int (1 : Int32)), .val (.ref rc), .val (.ref cc), .val (.int (1 : Int32)), .unset, .unset]) rfl ?_
    show own_S p e below T106 (mkF m 129 _ []) _
    refine XS.aloadN X106.here hx rfl (hb hby d6_129) rfl rfl ?_
    show own_S p e below T106 (mkF m 130 _ [(.ref b3)]) _
    refine XS.iload X106.here hx rfl (hb hby d6_130) rfl ?_
    show own_S p e below T106 (mkF m 132 _ [(.int (1 : Int32)), (.ref b3)]) _
    exact kt
  have f111 := (VL71.ext E93)
  obtain ⟨cl112, Ar112, qq112, S112, M112, H112, GG112⟩ := id f111
  have hin112 : ¬ ((1 : Int32) < 0 ∨ cl112.slots.size ≤ ((1 : Int32)).toNatClampNeg) := inb_of S112 ⟨by decide, by decide⟩
  have hat112 : cl112.slots[((1 : Int32)).toNatClampNeg]? = some (.double (FP.dsub r1 (FP.dmul dm r0))) := Has.at H112 hin112 rfl
  have K113 : own_K p e below G0 T106 (mkF m 142 #[.val (.ref a0), .val (.ref a1), .val (.ref b3), .val (.ref b93), .val (.int (1 : Int32)), .val (.ref rc), .val (.ref cc), .val (.double (FP.dsub r1 (FP.dmul dm r0))), .second, .val (.int (1 : Int32))] [(.ref rc), (.int (1 : Int32))]) := by
    intro t kt
    refine K110 t ?_
    refine X106.daload hx (j := (1 : Int32)) (v := (.double (FP.dsub r1 (FP.dmul dm r0)))) (by rw [e106]; exact (Ar112).1) (State.isArrayOf_alike hZ.alike (Ar112).2.1) (Ar112).2.2 hin112 hat112 (g := (mkF m 132 #[.val (.ref a0), .val (.ref a1), .val (.ref b3), .val (.ref b93), .val (.int (1 : Int32)), .val (.ref rc), .val (.ref cc), .val (.int (1 : Int32)), .unset, .unset] [(.int (1 : Int32)), (.ref b3)])) rfl rfl (hb hby d6_132) _ ?_
    show own_S p e below T106 (mkF m 133 _ [(.double (FP.dsub r1 (FP.dmul dm r0)))]) _
    refine XS.dstore X106.here hx rfl (hb hby d6_133) rfl (l' := #[.val (.ref a0), .val (.ref a1), .val (.ref b3), .val (.ref b93), .val (.int (1 : Int32)), .val (.ref rc), .val (.ref cc), .val (.double (FP.dsub r1 (FP.dmul dm r0))), .second, .unset]) rfl ?_
    show own_S p e below T106 (mkF m 135 _ []) _
    refine XS.iconst X106.here hx rfl (hb hby d6_135) ?_
    show own_S p e below T106 (mkF m 136 _ [(.int (1 : Int32))]) _
    refine XS.istore X106.here hx rfl (hb hby d6_136) rfl (l' := #[.val (.ref a0), .val (.ref a1), .val (.ref b3), .val (.ref b93), .val (.int (1 : Int32)), .val (.ref rc), .val (.ref cc), .val (.double (FP.dsub r1 (FP.dmul dm r0))), .second, .val (.int (1 : Int32))]) rfl ?_
    show own_S p e below T106 (mkF m 138 _ []) _
    refine XS.iload X106.here hx rfl (hb hby d6_138) rfl ?_
    show own_S p e below T106 (mkF m 140 _ [(.int (1 : Int32))]) _
    refine XS.aload X106.here hx rfl (hb hby d6_140) rfl rfl ?_
    show own_S p e below T106 (mkF m 142 _ [(.ref rc), (.int (1 : Int32))]) _
    exact kt
  have f114 := (f89.ext E93)
  obtain ⟨cl115, Ar115, qq115, S115, M115, H115, GG115⟩ := id f114
  have K116 : own_K p e below G0 T106 (mkF m 152 #[.val (.ref a0), .val (.ref a1), .val (.ref b3), .val (.ref b93), .val (.int (1 : Int32)), .val (.ref rc), .val (.ref cc), .val (.double (FP.dsub r1 (FP.dmul dm r0))), .second, .val (.int (1 : Int32))] [(.int (1 : Int32)), (.ref cc), (.double (FP.dsub r1 (FP.dmul dm r0)))]) := by
    intro t kt
    refine K113 t ?_
    refine X106.arraylength hx (by rw [e106]; exact (Ar115).1) (State.isArrayOf_alike hZ.alike (Ar115).2.1) (g := (mkF m 142 #[.val (.ref a0), .val (.ref a1), .val (.ref b3), .val (.ref b93), .val (.int (1 : Int32)), .val (.ref rc), .val (.ref cc), .val (.double (FP.dsub r1 (FP.dmul dm r0))), .second, .val (.int (1 : Int32))] [(.ref rc), (.int (1 : Int32))])) rfl rfl (hb hby d6_142) _ ?_
    rw [len_of S115 M115]
    show own_S p e below T106 (mkF m 143 #[.val (.ref a0), .val (.ref a1), .val (.ref b3), .val (.ref b93), .val (.int (1 : Int32)), .val (.ref rc), .val (.ref cc), .val (.double (FP.dsub r1 (FP.dmul dm r0))), .second, .val (.int (1 : Int32))] [(.int (2 : Int32)), (.int (1 : Int32))]) _
    refine XS.icmpNo X106.here hx rfl (hb hby d6_143) rfl (tlt (by decide)).2.1 ?_
    show own_S p e below T106 (mkF m 146 _ []) _
    refine XS.dload X106.here hx rfl (hb hby d6_146) rfl ?_
    show own_S p e below T106 (mkF m 148 _ [(.double (FP.dsub r1 (FP.dmul dm r0)))]) _
    refine XS.aload X106.here hx rfl (hb hby d6_148) rfl rfl ?_
    show own_S p e below T106 (mkF m 150 _ [(.ref cc), (.double (FP.dsub r1 (FP.dmul dm r0)))]) _
    refine XS.iload X106.here hx rfl (hb hby d6_150) rfl ?_
    show own_S p e below T106 (mkF m 152 _ [(.int (1 : Int32)), (.ref cc), (.double (FP.dsub r1 (FP.dmul dm r0)))]) _
    exact kt
  have f117 := (f90.ext E93)
  obtain ⟨cl118, Ar118, qq118, S118, M118, H118, GG118⟩ := id f117
  have hin118 : ¬ ((1 : Int32) < 0 ∨ cl118.slots.size ≤ ((1 : Int32)).toNatClampNeg) := inb_of S118 ⟨by decide, by decide⟩
  have hat118 : cl118.slots[((1 : Int32)).toNatClampNeg]? = some (.double dd) := Has.at H118 hin118 rfl
  have K119 : own_K p e below G0 T106 (mkF m 158 #[.val (.ref a0), .val (.ref a1), .val (.ref b3), .val (.ref b93), .val (.int (1 : Int32)), .val (.ref rc), .val (.ref cc), .val (.double (FP.dsub r1 (FP.dmul dm r0))), .second, .val (.int (1 : Int32))] [(.int (1 : Int32)), (.ref rc), (.ref b93), (.double dd), (.double (FP.dsub r1 (FP.dmul dm r0)))]) := by
    intro t kt
    refine K116 t ?_
    refine X106.daload hx (j := (1 : Int32)) (v := (.double dd)) (by rw [e106]; exact (Ar118).1) (State.isArrayOf_alike hZ.alike (Ar118).2.1) (Ar118).2.2 hin118 hat118 (g := (mkF m 152 #[.val (.ref a0), .val (.ref a1), .val (.ref b3), .val (.ref b93), .val (.int (1 : Int32)), .val (.ref rc), .val (.ref cc), .val (.double (FP.dsub r1 (FP.dmul dm r0))), .second, .val (.int (1 : Int32))] [(.int (1 : Int32)), (.ref cc), (.double (FP.dsub r1 (FP.dmul dm r0)))])) rfl rfl (hb hby d6_152) _ ?_
    show own_S p e below T106 (mkF m 153 _ [(.double dd), (.double (FP.dsub r1 (FP.dmul dm r0)))]) _
    refine XS.aloadN X106.here hx rfl (hb hby d6_153) rfl rfl ?_
    show own_S p e below T106 (mkF m 154 _ [(.ref b93), (.double dd), (.double (FP.dsub r1 (FP.dmul dm r0)))]) _
    refine XS.aload X106.here hx rfl (hb hby d6_154) rfl rfl ?_
    show own_S p e below T106 (mkF m 156 _ [(.ref rc), (.ref b93), (.double dd), (.double (FP.dsub r1 (FP.dmul dm r0)))]) _
    refine XS.iload X106.here hx rfl (hb hby d6_156) rfl ?_
    show own_S p e below T106 (mkF m 158 _ [(.int (1 : Int32)), (.ref rc), (.ref b93), (.double dd), (.double (FP.dsub r1 (FP.dmul dm r0)))]) _
    exact kt
  obtain ⟨cl120, Ar120, qq120, S120, M120, H120, GG120⟩ := id f114
  have hin120 : ¬ ((1 : Int32) < 0 ∨ cl120.slots.size ≤ ((1 : Int32)).toNatClampNeg) := inb_of S120 ⟨by decide, by decide⟩
  have hat120 : cl120.slots[((1 : Int32)).toNatClampNeg]? = some (.int gf) := Has.at H120 hin120 rfl
  have K121 : own_K p e below G0 T106 (mkF m 159 #[.val (.ref a0), .val (.ref a1), .val (.ref b3), .val (.ref b93), .val (.int (1 : Int32)), .val (.ref rc), .val (.ref cc), .val (.double (FP.dsub r1 (FP.dmul dm r0))), .second, .val (.int (1 : Int32))] [(.int gf), (.ref b93), (.double dd), (.double (FP.dsub r1 (FP.dmul dm r0)))]) := by
    intro t kt
    refine K119 t ?_
    refine X106.iaload hx (j := (1 : Int32)) (v := (.int gf)) (by rw [e106]; exact (Ar120).1) (State.isArrayOf_alike hZ.alike (Ar120).2.1) (Ar120).2.2 hin120 hat120 (g := (mkF m 158 #[.val (.ref a0), .val (.ref a1), .val (.ref b3), .val (.ref b93), .val (.int (1 : Int32)), .val (.ref rc), .val (.ref cc), .val (.double (FP.dsub r1 (FP.dmul dm r0))), .second, .val (.int (1 : Int32))] [(.int (1 : Int32)), (.ref rc), (.ref b93), (.double dd), (.double (FP.dsub r1 (FP.dmul dm r0)))])) rfl rfl (hb hby d6_158) _ ?_
    show own_S p e below T106 (mkF m 159 _ [(.int gf), (.ref b93), (.double dd), (.double (FP.dsub r1 (FP.dmul dm r0)))]) _
    exact kt
  obtain ⟨cl122, Ar122, qq122, S122, M122, H122, GG122⟩ := id VSb93
  have hin122 := inb_of S122 (own_in3 hRf)
  have hat122 : cl122.slots[(gf).toNatClampNeg]? = some (.double 0) := Has.at H122 hin122 ((own_g3 hRf).trans rfl)
  have K123 : own_K p e below G0 T106 (mkF m 167 #[.val (.ref a0), .val (.ref a1), .val (.ref b3), .val (.ref b93), .val (.int (1 : Int32)), .val (.ref rc), .val (.ref cc), .val (.double (FP.dsub (FP.dsub r1 (FP.dmul dm r0)) (FP.dmul dd 0))), .second, .val (.int ((1 : Int32) + (1 : Int32)))] []) := by
    intro t kt
    refine K121 t ?_
    refine X106.daload hx (j := gf) (v := (.double 0)) (by rw [e106]; exact (Ar122).1) (State.isArrayOf_alike hZ.alike (Ar122).2.1) (Ar122).2.2 hin122 hat122 (g := (mkF m 159 #[.val (.ref a0), .val (.ref a1), .val (.ref b3), .val (.ref b93), .val (.int (1 : Int32)), .val (.ref rc), .val (.ref cc), .val (.double (FP.dsub r1 (FP.dmul dm r0))), .second, .val (.int (1 : Int32))] [(.int gf), (.ref b93), (.double dd), (.double (FP.dsub r1 (FP.dmul dm r0)))])) rfl rfl (hb hby d6_159) _ ?_
    show own_S p e below T106 (mkF m 160 _ [(.double 0), (.double dd), (.double (FP.dsub r1 (FP.dmul dm r0)))]) _
    refine XS.dmulS X106.here hx rfl (hb hby d6_160) rfl (own_V_nonan qc) rfl ?_
    show own_S p e below T106 (mkF m 161 _ [(.double (FP.dmul dd 0)), (.double (FP.dsub r1 (FP.dmul dm r0)))]) _
    refine XS.dsubS X106.here hx rfl (hb hby d6_161) rfl (own_V_nonan qd) rfl ?_
    show own_S p e below T106 (mkF m 162 _ [(.double (FP.dsub (FP.dsub r1 (FP.dmul dm r0)) (FP.dmul dd 0)))]) _
    refine XS.dstore X106.here hx rfl (hb hby d6_162) rfl (l' := #[.val (.ref a0), .val (.ref a1), .val (.ref b3), .val (.ref b93), .val (.int (1 : Int32)), .val (.ref rc), .val (.ref cc), .val (.double (FP.dsub (FP.dsub r1 (FP.dmul dm r0)) (FP.dmul dd 0))), .second, .val (.int (1 : Int32))]) rfl ?_
    show own_S p e below T106 (mkF m 164 _ []) _
    refine XS.iinc X106.here hx rfl (hb hby d6_164) rfl (l' := #[.val (.ref a0), .val (.ref a1), .val (.ref b3), .val (.ref b93), .val (.int (1 : Int32)), .val (.ref rc), .val (.ref cc), .val (.double (FP.dsub (FP.dsub r1 (FP.dmul dm r0)) (FP.dmul dd 0))), .second, .val (.int ((1 : Int32) + (1 : Int32)))]) rfl ?_
    show own_S p e below T106 (mkF m 167 _ []) _
    exact kt
  rw [show ((1 : Int32) + (1 : Int32)) = (2 : Int32) from by decide] at K123
  have K124 : own_K p e below G0 T106 (mkF m 142 #[.val (.ref a0), .val (.ref a1), .val (.ref b3), .val (.ref b93), .val (.int (1 : Int32)), .val (.ref rc), .val (.ref cc), .val (.double (FP.dsub (FP.dsub r1 (FP.dmul dm r0)) (FP.dmul dd 0))), .second, .val (.int (2 : Int32))] [(.ref rc), (.int (2 : Int32))]) := by
    intro t kt
    refine K123 t ?_
    refine XS.goto X106.here hx rfl (pc0 := 167) (pc' := 138) rfl (hb hby d6_167) (by decide) (by decide) ?_
    show own_S p e below T106 (mkF m 138 _ []) _
    refine XS.iload X106.here hx rfl (hb hby d6_138) rfl ?_
    show own_S p e below T106 (mkF m 140 _ [(.int (2 : Int32))]) _
    refine XS.aload X106.here hx rfl (hb hby d6_140) rfl rfl ?_
    show own_S p e below T106 (mkF m 142 _ [(.ref rc), (.int (2 : Int32))]) _
    exact kt
  obtain ⟨cl125, Ar125, qq125, S125, M125, H125, GG125⟩ := id f114
  have K126 : own_K p e below G0 T106 (mkF m 174 #[.val (.ref a0), .val (.ref a1), .val (.ref b3), .val (.ref b93), .val (.int (1 : Int32)), .val (.ref rc), .val (.ref cc), .val (.double (FP.dsub (FP.dsub r1 (FP.dmul dm r0)) (FP.dmul dd 0))), .second, .val (.int (2 : Int32))] [(.int (0 : Int32)), (.ref rc), (.ref b93)]) := by
    intro t kt
    refine K124 t ?_
    refine X106.arraylength hx (by rw [e106]; exact (Ar125).1) (State.isArrayOf_alike hZ.alike (Ar125).2.1) (g := (mkF m 142 #[.val (.ref a0), .val (.ref a1), .val (.ref b3), .val (.ref b93), .val (.int (1 : Int32)), .val (.ref rc), .val (.ref cc), .val (.double (FP.dsub (FP.dsub r1 (FP.dmul dm r0)) (FP.dmul dd 0))), .second, .val (.int (2 : Int32))] [(.ref rc), (.int (2 : Int32))])) rfl rfl (hb hby d6_142) _ ?_
    rw [len_of S125 M125]
    show own_S p e below T106 (mkF m 143 #[.val (.ref a0), .val (.ref a1), .val (.ref b3), .val (.ref b93), .val (.int (1 : Int32)), .val (.ref rc), .val (.ref cc), .val (.double (FP.dsub (FP.dsub r1 (FP.dmul dm r0)) (FP.dmul dd 0))), .second, .val (.int (2 : Int32))] [(.int (2 : Int32)), (.int (2 : Int32))]) _
    refine XS.icmpYes X106.here hx rfl (pc0 := 143) (pc' := 170) rfl (hb hby d6_143) rfl (flt (by decide)).2.1 (by decide) (by decide) ?_
    show own_S p e below T106 (mkF m 170 _ []) _
    refine XS.aloadN X106.here hx rfl (hb hby d6_170) rfl rfl ?_
    show own_S p e below T106 (mkF m 171 _ [(.ref b93)]) _
    refine XS.aload X106.here hx rfl (hb hby d6_171) rfl rfl ?_
    show own_S p e below T106 (mkF m 173 _ [(.ref rc), (.ref b93)]) _
    refine XS.iconst X106.here hx rfl (hb hby d6_173) ?_
    show own_S p e below T106 (mkF m 174 _ [(.int (0 : Int32)), (.ref rc), (.ref b93)]) _
    exact kt
  obtain ⟨cl127, Ar127, qq127, S127, M127, H127, GG127⟩ := id f114
  have hin127 : ¬ ((0 : Int32) < 0 ∨ cl127.slots.size ≤ ((0 : Int32)).toNatClampNeg) := inb_of S127 ⟨by decide, by decide⟩
  have hat127 : cl127.slots[((0 : Int32)).toNatClampNeg]? = some (.int g1) := Has.at H127 hin127 rfl
  have K128 : own_K p e below G0 T106 (mkF m 180 #[.val (.ref a0), .val (.ref a1), .val (.ref b3), .val (.ref b93), .val (.int (1 : Int32)), .val (.ref rc), .val (.ref cc), .val (.double (FP.dsub (FP.dsub r1 (FP.dmul dm r0)) (FP.dmul dd 0))), .second, .val (.int (2 : Int32))] [(.int (0 : Int32)), (.ref cc), (.double (FP.dsub (FP.dsub r1 (FP.dmul dm r0)) (FP.dmul dd 0))), (.int g1), (.ref b93)]) := by
    intro t kt
    refine K126 t ?_
    refine X106.iaload hx (j := (0 : Int32)) (v := (.int g1)) (by rw [e106]; exact (Ar127).1) (State.isArrayOf_alike hZ.alike (Ar127).2.1) (Ar127).2.2 hin127 hat127 (g := (mkF m 174 #[.val (.ref a0), .val (.ref a1), .val (.ref b3), .val (.ref b93), .val (.int (1 : Int32)), .val (.ref rc), .val (.ref cc), .val (.double (FP.dsub (FP.dsub r1 (FP.dmul dm r0)) (FP.dmul dd 0))), .second, .val (.int (2 : Int32))] [(.int (0 : Int32)), (.ref rc), (.ref b93)])) rfl rfl (hb hby d6_174) _ ?_
    show own_S p e below T106 (mkF m 175 _ [(.int g1), (.ref b93)]) _
    refine XS.dload X106.here hx rfl (hb hby d6_175) rfl ?_
    show own_S p e below T106 (mkF m 177 _ [(.double (FP.dsub (FP.dsub r1 (FP.dmul dm r0)) (FP.dmul dd 0))), (.int g1), (.ref b93)]) _
    refine XS.aload X106.here hx rfl (hb hby d6_177) rfl rfl ?_
    show own_S p e below T106 (mkF m 179 _ [(.ref cc), (.double (FP.dsub (FP.dsub r1 (FP.dmul dm r0)) (FP.dmul dd 0))), (.int g1), (.ref b93)]) _
    refine XS.iconst X106.here hx rfl (hb hby d6_179) ?_
    show own_S p e below T106 (mkF m 180 _ [(.int (0 : Int32)), (.ref cc), (.double (FP.dsub (FP.dsub r1 (FP.dmul dm r0)) (FP.dmul dd 0))), (.int g1), (.ref b93)]) _
    exact kt
  obtain ⟨cl129, Ar129, qq129, S129, M129, H129, GG129⟩ := id f117
  have hin129 : ¬ ((0 : Int32) < 0 ∨ cl129.slots.size ≤ ((0 : Int32)).toNatClampNeg) := inb_of S129 ⟨by decide, by decide⟩
  have hat129 : cl129.slots[((0 : Int32)).toNatClampNeg]? = some (.double dc) := Has.at H129 hin129 rfl
  have K130 : own_K p e below G0 T106 (mkF m 182 #[.val (.ref a0), .val (.ref a1), .val (.ref b3), .val (.ref b93), .val (.int (1 : Int32)), .val (.ref rc), .val (.ref cc), .val (.double (FP.dsub (FP.dsub r1 (FP.dmul dm r0)) (FP.dmul dd 0))), .second, .val (.int (2 : Int32))] [(.double (FP.ddiv (FP.dsub (FP.dsub r1 (FP.dmul dm r0)) (FP.dmul dd 0)) dc)), (.int g1), (.ref b93)]) := by
    intro t kt
    refine K128 t ?_
    refine X106.daload hx (j := (0 : Int32)) (v := (.double dc)) (by rw [e106]; exact (Ar129).1) (State.isArrayOf_alike hZ.alike (Ar129).2.1) (Ar129).2.2 hin129 hat129 (g := (mkF m 180 #[.val (.ref a0), .val (.ref a1), .val (.ref b3), .val (.ref b93), .val (.int (1 : Int32)), .val (.ref rc), .val (.ref cc), .val (.double (FP.dsub (FP.dsub r1 (FP.dmul dm r0)) (FP.dmul dd 0))), .second, .val (.int (2 : Int32))] [(.int (0 : Int32)), (.ref cc), (.double (FP.dsub (FP.dsub r1 (FP.dmul dm r0)) (FP.dmul dd 0))), (.int g1), (.ref b93)])) rfl rfl (hb hby d6_180) _ ?_
    show own_S p e below T106 (mkF m 181 _ [(.double dc), (.double (FP.dsub (FP.dsub r1 (FP.dmul dm r0)) (FP.dmul dd 0))), (.int g1), (.ref b93)]) _
    refine XS.ddivS X106.here hx rfl (hb hby d6_181) rfl (own_V_nonan qx) rfl ?_
    show own_S p e below T106 (mkF m 182 _ [(.double (FP.ddiv (FP.dsub (FP.dsub r1 (FP.dmul dm r0)) (FP.dmul dd 0)) dc)), (.int g1), (.ref b93)]) _
    exact kt
  obtain ⟨cl131, Ar131, qq131, S131, M131, H131, GG131⟩ := id VSb93
  have hin131 := inb_of S131 (own_in3 hR1)
  obtain ⟨T132, h132, X132, e132, W132, st132⟩ := stD X106 hx hZ e106 Ar131 (j := g1) hin131 (g := (mkF m 182 #[.val (.ref a0), .val (.ref a1), .val (.ref b3), .val (.ref b93), .val (.int (1 : Int32)), .val (.ref rc), .val (.ref cc), .val (.double (FP.dsub (FP.dsub r1 (FP.dmul dm r0)) (FP.dmul dd 0))), .second, .val (.int (2 : Int32))] [(.double (FP.ddiv (FP.dsub (FP.dsub r1 (FP.dmul dm r0)) (FP.dmul dd 0)) dc)), (.int g1), (.ref b93)])) rfl rfl (hb hby d6_182)
  have K132 : own_K p e below G0 T132 (mkF m 183 #[.val (.ref a0), .val (.ref a1), .val (.ref b3), .val (.ref b93), .val (.int (1 : Int32)), .val (.ref rc), .val (.ref cc), .val (.double (FP.dsub (FP.dsub r1 (FP.dmul dm r0)) (FP.dmul dd 0))), .second, .val (.int (2 : Int32))] []) := fun t kt => K130 t (st132 _ kt)
  have Z132 : n0 ≤ h132.size := Nat.le_trans Z93 (Keep.of_wr W132).1
  have VL132 : Arv Z h132 b93 k93 .double (3 : Int32) (own_l3 (own_u g1 (.double (FP.ddiv (FP.dsub (FP.dsub r1 (FP.dmul dm r0)) (FP.dmul dd 0)) dc)) (fun _ => (.double 0)))) (.double 0) := by
    rw [← own_s3 hR1]
    exact Arv.set Ar131 qq131 S131 M131 H131 GG131 rfl W132 (g1).toNatClampNeg rfl (own_n3 hR1)
  have N132 := Fr.snoc X132 N71 gn93
  have K133 : own_K p e below G0 T132 (mkF m 186 #[.val (.ref a0), .val (.ref a1), .val (.ref b3), .val (.ref b93), .val (.int ((1 : Int32) + (-1 : Int32))), .val (.ref rc), .val (.ref cc), .val (.double (FP.dsub (FP.dsub r1 (FP.dmul dm r0)) (FP.dmul dd 0))), .second, .val (.int (2 : Int32))] []) := by
    intro t kt
    refine K132 t ?_
    refine XS.iinc X132.here hx rfl (hb hby d6_183) rfl (l' := #[.val (.ref a0), .val (.ref a1), .val (.ref b3), .val (.ref b93), .val (.int ((1 : Int32) + (-1 : Int32))), .val (.ref rc), .val (.ref cc), .val (.double (FP.dsub (FP.dsub r1 (FP.dmul dm r0)) (FP.dmul dd 0))), .second, .val (.int (2 : Int32))]) rfl ?_
    show own_S p e below T132 (mkF m 186 _ []) _
    exact kt
  rw [show ((1 : Int32) + (-1 : Int32)) = (0 : Int32) from by decide] at K133
  have K134 : own_K p e below G0 T132 (mkF m 112 #[.val (.ref a0), .val (.ref a1), .val (.ref b3), .val (.ref b93), .val (.int (0 : Int32)), .val (.ref rc), .val (.ref cc), .val (.double (FP.dsub (FP.dsub r1 (FP.dmul dm r0)) (FP.dmul dd 0))), .second, .val (.int (2 : Int32))] [(.ref a0)]) := by
    intro t kt
    refine K133 t ?_
    refine XS.goto X132.here hx rfl (pc0 := 186) (pc' := 106) rfl (hb hby d6_186) (by decide) (by decide) ?_
    show own_S p e below T132 (mkF m 106 _ []) _
    refine XS.iload X132.here hx rfl (hb hby d6_106) rfl ?_
    show own_S p e below T132 (mkF m 108 _ [(.int (0 : Int32))]) _
    refine XS.ifNo X132.here hx rfl (hb hby d6_108) rfl ((if0 _ _).trans (flt (by decide)).1) ?_
    show own_S p e below T132 (mkF m 111 _ []) _
    refine XS.aloadN X132.here hx rfl (hb hby d6_111) rfl rfl ?_
    show own_S p e below T132 (mkF m 112 _ [(.ref a0)]) _
    exact kt
  have f135 := (f99.other W132 (Or.inl ne_a0_b93))
  obtain ⟨T136, X136, e136, st136⟩ := getF X132 hx hZ hown (host := "") (Or.inl (hw _ (List.mem_of_getElem? (i := 34) rfl))) Via.refl e132 f135 (g := (mkF m 112 #[.val (.ref a0), .val (.ref a1), .val (.ref b3), .val (.ref b93), .val (.int (0 : Int32)), .val (.ref rc), .val (.ref cc), .val (.double (FP.dsub (FP.dsub r1 (FP.dmul dm r0)) (FP.dmul dd 0))), .second, .val (.int (2 : Int32))] [(.ref a0)])) rfl rfl (hb hby d6_112)
  have K136 : own_K p e below G0 T136 (mkF m 115 #[.val (.ref a0), .val (.ref a1), .val (.ref b3), .val (.ref b93), .val (.int (0 : Int32)), .val (.ref rc), .val (.ref cc), .val (.double (FP.dsub (FP.dsub r1 (FP.dmul dm r0)) (FP.dmul dd 0))), .second, .val (.int (2 : Int32))] [(.ref pu)]) := fun t kt => K134 t (st136 _ kt)
  have K137 : own_K p e below G0 T136 (mkF m 117 #[.val (.ref a0), .val (.ref a1), .val (.ref b3), .val (.ref b93), .val (.int (0 : Int32)), .val (.ref rc), .val (.ref cc), .val (.double (FP.dsub (FP.dsub r1 (FP.dmul dm r0)) (FP.dmul dd 0))), .second, .val (.int (2 : Int32))] [(.int (0 : Int32)), (.ref pu)]) := by
    intro t kt
    refine K136 t ?_
    refine XS.iload X136.here hx rfl (hb hby d6_115) rfl ?_
    show own_S p e below T136 (mkF m 117 _ [(.int (0 : Int32)), (.ref pu)]) _
    exact kt
  have f138 := (f102.other W132 ne_pu_b93)
  obtain ⟨cl139, Ar139, qq139, S139, M139, H139, GG139⟩ := id f138
  have hin139 : ¬ ((0 : Int32) < 0 ∨ cl139.slots.size ≤ ((0 : Int32)).toNatClampNeg) := inb_of S139 ⟨by decide, by decide⟩
  have hat139 : cl139.slots[((0 : Int32)).toNatClampNeg]? = some (.ref ra) := Has.at H139 hin139 rfl
  have K140 : own_K p e below G0 T136 (mkF m 121 #[.val (.ref a0), .val (.ref a1), .val (.ref b3), .val (.ref b93), .val (.int (0 : Int32)), .val (.ref ra), .val (.ref cc), .val (.double (FP.dsub (FP.dsub r1 (FP.dmul dm r0)) (FP.dmul dd 0))), .second, .val (.int (2 : Int32))] [(.ref a0)]) := by
    intro t kt
    refine K137 t ?_
    refine X136.aaload hx (j := (0 : Int32)) (v := (.ref ra)) (by rw [e136]; exact (Ar139).1) (State.isArrayOf_alike hZ.alike (Ar139).2.1) rfl (Ar139).2.2 hin139 hat139 (g := (mkF m 117 #[.val (.ref a0), .val (.ref a1), .val (.ref b3), .val (.ref b93), .val (.int (0 : Int32)), .val (.ref rc), .val (.ref cc), .val (.double (FP.dsub (FP.dsub r1 (FP.dmul dm r0)) (FP.dmul dd 0))), .second, .val (.int (2 : Int32))] [(.int (0 : Int32)), (.ref pu)])) rfl rfl (hb hby d6_117) _ ?_
    show own_S p e below T136 (mkF m 118 _ [(.ref ra)]) _
    refine XS.astore X136.here hx rfl (hb hby d6_118) rfl rfl (l' := #[.val (.ref a0), .val (.ref a1), .val (.ref b3), .val (.ref b93), .val (.int (0 : Int32)), .val (.ref ra), .val (.ref cc), .val (.double (FP.dsub (FP.dsub r1 (FP.dmul dm r0)) (FP.dmul dd 0))), .second, .val (.int (2 : Int32))]) rfl ?_
    show own_S p e below T136 (mkF m 120 _ []) _
    refine XS.aloadN X136.here hx rfl (hb hby d6_120) rfl rfl ?_
    show own_S p e below T136 (mkF m 121 _ [(.ref a0)]) _
    exact kt
  have f141 := (f105.other W132 (Or.inl ne_a0_b93))
  obtain ⟨T142, X142, e142, st142⟩ := getF X136 hx hZ hown (host := "") (Or.inl (hw _ (List.mem_of_getElem? (i := 36) rfl))) Via.refl e136 f141 (g := (mkF m 121 #[.val (.ref a0), .val (.ref a1), .val (.ref b3), .val (.ref b93), .val (.int (0 : Int32)), .val (.ref ra), .val (.ref cc), .val (.double (FP.dsub (FP.dsub r1 (FP.dmul dm r0)) (FP.dmul dd 0))), .second, .val (.int (2 : Int32))] [(.ref a0)])) rfl rfl (hb hby d6_121)
  have K142 : own_K p e below G0 T142 (mkF m 124 #[.val (.ref a0), .val (.ref a1), .val (.ref b3), .val (.ref b93), .val (.int (0 : Int32)), .val (.ref ra), .val (.ref cc), .val (.double (FP.dsub (FP.dsub r1 (FP.dmul dm r0)) (FP.dmul dd 0))), .second, .val (.int (2 : Int32))] [(.ref pc)]) := fun t kt => K140 t (st142 _ kt)
  have K143 : own_K p e below G0 T142 (mkF m 126 #[.val (.ref a0), .val (.ref a1), .val (.ref b3), .val (.ref b93), .val (.int (0 : Int32)), .val (.ref ra), .val (.ref cc), .val (.double (FP.dsub (FP.dsub r1 (FP.dmul dm r0)) (FP.dmul dd 0))), .second, .val (.int (2 : Int32))] [(.int (0 : Int32)), (.ref pc)]) := by
    intro t kt
    refine K142 t ?_
    refine XS.iload X142.here hx rfl (hb hby d6_124) rfl ?_
    show own_S p e below T142 (mkF m 126 _ [(.int (0 : Int32)), (.ref pc)]) _
    exact kt
  have f144 := (f108.other W132 ne_pc_b93)
  obtain ⟨cl145, Ar145, qq145, S145, M145, H145, GG145⟩ := id f144
  have hin145 : ¬ ((0 : Int32) < 0 ∨ cl145.slots.size ≤ ((0 : Int32)).toNatClampNeg) := inb_of S145 ⟨by decide, by decide⟩
  have hat145 : cl145.slots[((0 : Int32)).toNatClampNeg]? = some (.ref ca) := Has.at H145 hin145 rfl
  have K146 : own_K p e below G0 T142 (mkF m 132 #[.val (.ref a0), .val (.ref a1), .val (.ref b3), .val (.ref b93), .val (.int (0 : Int32)), .val (.ref ra), .val (.ref ca), .val (.double (FP.dsub (FP.dsub r1 (FP.dmul dm r0)) (FP.dmul dd 0))), .second, .val (.int (2 : Int32))] [(.int (0 : Int32)), (.ref b3)]) := by
    intro t kt
    refine K143 t ?_
    refine X142.aaload hx (j := (0 : Int32)) (v := (.ref ca)) (by rw [e142]; exact (Ar145).1) (State.isArrayOf_alike hZ.alike (Ar145).2.1) rfl (Ar145).2.2 hin145 hat145 (g := (mkF m 126 #[.val (.ref a0), .val (.ref a1), .val (.ref b3), .val (.ref b93), .val (.int (0 : Int32)), .val (.ref ra), .val (.ref cc), .val (.double (FP.dsub (FP.dsub r1 (FP.dmul dm r0)) (FP.dmul dd 0))), .second, .val (.int (2 : Int32))] [(.int (0 : Int32)), (.ref pc)])) rfl rfl (hb hby d6_126) _ ?_
    show own_S p e below T142 (mkF m 127 _ [(.ref ca)]) _
    refine XS.astore X142.here hx rfl (hb hby d6_127) rfl rfl (l' := #[.val (.ref a0), .val (.ref a1), .val (.ref b3), .val (.ref b93), .val (.int (0 : Int32)), .val (.ref ra), .val (.ref ca), .val (.double (FP.dsub (FP.dsub r1 (FP.dmul dm r0)) (FP.dmul dd 0))), .second, .val (.int (2 : Int32))]) rfl ?_
    show own_S p e below T142 (mkF m 129 _ []) _
    refine XS.aloadN X142.here hx rfl (hb hby d6_129) rfl rfl ?_
    show own_S p e below T142 (mkF m 130 _ [(.ref b3)]) _
    refine XS.iload X142.here hx rfl (hb hby d6_130) rfl ?_
    show own_S p e below T142 (mkF m 132 _ [(.int (0 : Int32)), (.ref b3)]) _
    exact kt
  have f147 := (f111.other W132 ne_b3_b93)
  obtain ⟨cl148, Ar148, qq148, S148, M148, H148, GG148⟩ := id f147
  have hin148 : ¬ ((0 : Int32) < 0 ∨ cl148.slots.size ≤ ((0 : Int32)).toNatClampNeg) := inb_of S148 ⟨by decide, by decide⟩
  have hat148 : cl148.slots[((0 : Int32)).toNatClampNeg]? = some (.double r0) := Has.at H148 hin148 rfl
  have K149 : own_K p e below G0 T142 (mkF m 142 #[.val (.ref a0), .val (.ref a1), .val (.ref b3), .val (.ref b93), .val (.int (0 : Int32)), .val (.ref ra), .val (.ref ca), .val (.double r0), .second, .val (.int (1 : Int32))] [(.ref ra), (.int (1 : Int32))]) := by
    intro t kt
    refine K146 t ?_
    refine X142.daload hx (j := (0 : Int32)) (v := (.double r0)) (by rw [e142]; exact (Ar148).1) (State.isArrayOf_alike hZ.alike (Ar148).2.1) (Ar148).2.2 hin148 hat148 (g := (mkF m 132 #[.val (.ref a0), .val (.ref a1), .val (.ref b3), .val (.ref b93), .val (.int (0 : Int32)), .val (.ref ra), .val (.ref ca), .val (.double (FP.dsub (FP.dsub r1 (FP.dmul dm r0)) (FP.dmul dd 0))), .second, .val (.int (2 : Int32))] [(.int (0 : Int32)), (.ref b3)])) rfl rfl (hb hby d6_132) _ ?_
    show own_S p e below T142 (mkF m 133 _ [(.double r0)]) _
    refine XS.dstore X142.here hx rfl (hb hby d6_133) rfl (l' := #[.val (.ref a0), .val (.ref a1), .val (.ref b3), .val (.ref b93), .val (.int (0 : Int32)), .val (.ref ra), .val (.ref ca), .val (.double r0), .second, .val (.int (2 : Int32))]) rfl ?_
    show own_S p e below T142 (mkF m 135 _ []) _
    refine XS.iconst X142.here hx rfl (hb hby d6_135) ?_
    show own_S p e below T142 (mkF m 136 _ [(.int (1 : Int32))]) _
    refine XS.istore X142.here hx rfl (hb hby d6_136) rfl (l' := #[.val (.ref a0), .val (.ref a1), .val (.ref b3), .val (.ref b93), .val (.int (0 : Int32)), .val (.ref ra), .val (.ref ca), .val (.double r0), .second, .val (.int (1 : Int32))]) rfl ?_
    show own_S p e below T142 (mkF m 138 _ []) _
    refine XS.iload X142.here hx rfl (hb hby d6_138) rfl ?_
    show own_S p e below T142 (mkF m 140 _ [(.int (1 : Int32))]) _
    refine XS.aload X142.here hx rfl (hb hby d6_140) rfl rfl ?_
    show own_S p e below T142 (mkF m 142 _ [(.ref ra), (.int (1 : Int32))]) _
    exact kt
  have f150 := ((f87.ext E93).other W132 ne_ra_b93)
  obtain ⟨cl151, Ar151, qq151, S151, M151, H151, GG151⟩ := id f150
  have K152 : own_K p e below G0 T142 (mkF m 152 #[.val (.ref a0), .val (.ref a1), .val (.ref b3), .val (.ref b93), .val (.int (0 : Int32)), .val (.ref ra), .val (.ref ca), .val (.double r0), .second, .val (.int (1 : Int32))] [(.int (1 : Int32)), (.ref ca), (.double r0)]) := by
    intro t kt
    refine K149 t ?_
    refine X142.arraylength hx (by rw [e142]; exact (Ar151).1) (State.isArrayOf_alike hZ.alike (Ar151).2.1) (g := (mkF m 142 #[.val (.ref a0), .val (.ref a1), .val (.ref b3), .val (.ref b93), .val (.int (0 : Int32)), .val (.ref ra), .val (.ref ca), .val (.double r0), .second, .val (.int (1 : Int32))] [(.ref ra), (.int (1 : Int32))])) rfl rfl (hb hby d6_142) _ ?_
    rw [len_of S151 M151]
    show own_S p e below T142 (mkF m 143 #[.val (.ref a0), .val (.ref a1), .val (.ref b3), .val (.ref b93), .val (.int (0 : Int32)), .val (.ref ra), .val (.ref ca), .val (.double r0), .second, .val (.int (1 : Int32))] [(.int (3 : Int32)), (.int (1 : Int32))]) _
    refine XS.icmpNo X142.here hx rfl (hb hby d6_143) rfl (tlt (by decide)).2.1 ?_
    show own_S p e below T142 (mkF m 146 _ []) _
    refine XS.dload X142.here hx rfl (hb hby d6_146) rfl ?_
    show own_S p e below T142 (mkF m 148 _ [(.double r0)]) _
    refine XS.aload X142.here hx rfl (hb hby d6_148) rfl rfl ?_
    show own_S p e below T142 (mkF m 150 _ [(.ref ca), (.double r0)]) _
    refine XS.iload X142.here hx rfl (hb hby d6_150) rfl ?_
    show own_S p e below T142 (mkF m 152 _ [(.int (1 : Int32)), (.ref ca), (.double r0)]) _
    exact kt
  have f153 := ((f88.ext E93).other W132 ne_ca_b93)
  obtain ⟨cl154, Ar154, qq154, S154, M154, H154, GG154⟩ := id f153
  have hin154 : ¬ ((1 : Int32) < 0 ∨ cl154.slots.size ≤ ((1 : Int32)).toNatClampNeg) := inb_of S154 ⟨by decide, by decide⟩
  have hat154 : cl154.slots[((1 : Int32)).toNatClampNeg]? = some (.double db) := Has.at H154 hin154 rfl
  have K155 : own_K p e below G0 T142 (mkF m 158 #[.val (.ref a0), .val (.ref a1), .val (.ref b3), .val (.ref b93), .val (.int (0 : Int32)), .val (.ref ra), .val (.ref ca), .val (.double r0), .second, .val (.int (1 : Int32))] [(.int (1 : Int32)), (.ref ra), (.ref b93), (.double db), (.double r0)]) := by
    intro t kt
    refine K152 t ?_
    refine X142.daload hx (j := (1 : Int32)) (v := (.double db)) (by rw [e142]; exact (Ar154).1) (State.isArrayOf_alike hZ.alike (Ar154).2.1) (Ar154).2.2 hin154 hat154 (g := (mkF m 152 #[.val (.ref a0), .val (.ref a1), .val (.ref b3), .val (.ref b93), .val (.int (0 : Int32)), .val (.ref ra), .val (.ref ca), .val (.double r0), .second, .val (.int (1 : Int32))] [(.int (1 : Int32)), (.ref ca), (.double r0)])) rfl rfl (hb hby d6_152) _ ?_
    show own_S p e below T142 (mkF m 153 _ [(.double db), (.double r0)]) _
    refine XS.aloadN X142.here hx rfl (hb hby d6_153) rfl rfl ?_
    show own_S p e below T142 (mkF m 154 _ [(.ref b93), (.double db), (.double r0)]) _
    refine XS.aload X142.here hx rfl (hb hby d6_154) rfl rfl ?_
    show own_S p e below T142 (mkF m 156 _ [(.ref ra), (.ref b93), (.double db), (.double r0)]) _
    refine XS.iload X142.here hx rfl (hb hby d6_156) rfl ?_
    show own_S p e below T142 (mkF m 158 _ [(.int (1 : Int32)), (.ref ra), (.ref b93), (.double db), (.double r0)]) _
    exact kt
  obtain ⟨cl156, Ar156, qq156, S156, M156, H156, GG156⟩ := id f150
  have hin156 : ¬ ((1 : Int32) < 0 ∨ cl156.slots.size ≤ ((1 : Int32)).toNatClampNeg) := inb_of S156 ⟨by decide, by decide⟩
  have hat156 : cl156.slots[((1 : Int32)).toNatClampNeg]? = some (.int g1) := Has.at H156 hin156 rfl
  have K157 : own_K p e below G0 T142 (mkF m 159 #[.val (.ref a0), .val (.ref a1), .val (.ref b3), .val (.ref b93), .val (.int (0 : Int32)), .val (.ref ra), .val (.ref ca), .val (.double r0), .second, .val (.int (1 : Int32))] [(.int g1), (.ref b93), (.double db), (.double r0)]) := by
    intro t kt
    refine K155 t ?_
    refine X142.iaload hx (j := (1 : Int32)) (v := (.int g1)) (by rw [e142]; exact (Ar156).1) (State.isArrayOf_alike hZ.alike (Ar156).2.1) (Ar156).2.2 hin156 hat156 (g := (mkF m 158 #[.val (.ref a0), .val (.ref a1), .val (.ref b3), .val (.ref b93), .val (.int (0 : Int32)), .val (.ref ra), .val (.ref ca), .val (.double r0), .second, .val (.int (1 : Int32))] [(.int (1 : Int32)), (.ref ra), (.ref b93), (.double db), (.double r0)])) rfl rfl (hb hby d6_158) _ ?_
    show own_S p e below T142 (mkF m 159 _ [(.int g1), (.ref b93), (.double db), (.double r0)]) _
    exact kt
  obtain ⟨cl158, Ar158, qq158, S158, M158, H158, GG158⟩ := id VL132
  have hin158 := inb_of S158 (own_in3 hR1)
  have hat158 : cl158.slots[(g1).toNatClampNeg]? = some (.double (FP.ddiv (FP.dsub (FP.dsub r1 (FP.dmul dm r0)) (FP.dmul dd 0)) dc)) := Has.at H158 hin158 ((own_g3 hR1).trans own_u1)
  have K159 : own_K p e below G0 T142 (mkF m 167 #[.val (.ref a0), .val (.ref a1), .val (.ref b3), .val (.ref b93), .val (.int (0 : Int32)), .val (.ref ra), .val (.ref ca), .val (.double (FP.dsub r0 (FP.dmul db (FP.ddiv (FP.dsub (FP.dsub r1 (FP.dmul dm r0)) (FP.dmul dd 0)) dc)))), .second, .val (.int ((1 : Int32) + (1 : Int32)))] []) := by
    intro t kt
    refine K157 t ?_
    refine X142.daload hx (j := g1) (v := (.double (FP.ddiv (FP.dsub (FP.dsub r1 (FP.dmul dm r0)) (FP.dmul dd 0)) dc))) (by rw [e142]; exact (Ar158).1) (State.isArrayOf_alike hZ.alike (Ar158).2.1) (Ar158).2.2 hin158 hat158 (g := (mkF m 159 #[.val (.ref a0), .val (.ref a1), .val (.ref b3), .val (.ref b93), .val (.int (0 : Int32)), .val (.ref ra), .val (.ref ca), .val (.double r0), .second, .val (.int (1 : Int32))] [(.int g1), (.ref b93), (.double db), (.double r0)])) rfl rfl (hb hby d6_159) _ ?_
    show own_S p e below T142 (mkF m 160 _ [(.double (FP.ddiv (FP.dsub (FP.dsub r1 (FP.dmul dm r0)) (FP.dmul dd 0)) dc)), (.double db), (.double r0)]) _
    refine XS.dmulS X142.here hx rfl (hb hby d6_160) rfl (own_V_nonan qe) rfl ?_
    show own_S p e below T142 (mkF m 161 _ [(.double (FP.dmul db (FP.ddiv (FP.dsub (FP.dsub r1 (FP.dmul dm r0)) (FP.dmul dd 0)) dc))), (.double r0)]) _
    refine XS.dsubS X142.here hx rfl (hb hby d6_161) rfl (own_V_nonan qf) rfl ?_
    show own_S p e below T142 (mkF m 162 _ [(.double (FP.dsub r0 (FP.dmul db (FP.ddiv (FP.dsub (FP.dsub r1 (FP.dmul dm r0)) (FP.dmul dd 0)) dc))))]) _
    refine XS.dstore X142.here hx rfl (hb hby d6_162) rfl (l' := #[.val (.ref a0), .val (.ref a1), .val (.ref b3), .val (.ref b93), .val (.int (0 : Int32)), .val (.ref ra), .val (.ref ca), .val (.double (FP.dsub r0 (FP.dmul db (FP.ddiv (FP.dsub (FP.dsub r1 (FP.dmul dm r0)) (FP.dmul dd 0)) dc)))), .second, .val (.int (1 : Int32))]) rfl ?_
    show own_S p e below T142 (mkF m 164 _ []) _
    refine XS.iinc X142.here hx rfl (hb hby d6_164) rfl (l' := #[.val (.ref a0), .val (.ref a1), .val (.ref b3), .val (.ref b93), .val (.int (0 : Int32)), .val (.ref ra), .val (.ref ca), .val (.double (FP.dsub r0 (FP.dmul db (FP.ddiv (FP.dsub (FP.dsub r1 (FP.dmul dm r0)) (FP.dmul dd 0)) dc)))), .second, .val (.int ((1 : Int32) + (1 : Int32)))]) rfl ?_
    show own_S p e below T142 (mkF m 167 _ []) _
    exact kt
  rw [show ((1 : Int32) + (1 : Int32)) = (2 : Int32) from by decide] at K159
  have K160 : own_K p e below G0 T142 (mkF m 142 #[.val (.ref a0), .val (.ref a1), .val (.ref b3), .val (.ref b93), .val (.int (0 : Int32)), .val (.ref ra), .val (.ref ca), .val (.double (FP.dsub r0 (FP.dmul db (FP.ddiv (FP.dsub (FP.dsub r1 (FP.dmul dm r0)) (FP.dmul dd 0)) dc)))), .second, .val (.int (2 : Int32))] [(.ref ra), (.int (2 : Int32))]) := by
    intro t kt
    refine K159 t ?_
    refine XS.goto X142.here hx rfl (pc0 := 167) (pc' := 138) rfl (hb hby d6_167) (by decide) (by decide) ?_
    show own_S p e below T142 (mkF m 138 _ []) _
    refine XS.iload X142.here hx rfl (hb hby d6_138) rfl ?_
    show own_S p e below T142 (mkF m 140 _ [(.int (2 : Int32))]) _
    refine XS.aload X142.here hx rfl (hb hby d6_140) rfl rfl ?_
    show own_S p e below T142 (mkF m 142 _ [(.ref ra), (.int (2 : Int32))]) _
    exact kt
  obtain ⟨cl161, Ar161, qq161, S161, M161, H161, GG161⟩ := id f150
  have K162 : own_K p e below G0 T142 (mkF m 152 #[.val (.ref a0), .val (.ref a1), .val (.ref b3), .val (.ref b93), .val (.int (0 : Int32)), .val (.ref ra), .val (.ref ca), .val (.double (FP.dsub r0 (FP.dmul db (FP.ddiv (FP.dsub (FP.dsub r1 (FP.dmul dm r0)) (FP.dmul dd 0)) dc)))), .second, .val (.int (2 : Int32))] [(.int (2 : Int32)), (.ref ca), (.double (FP.dsub r0 (FP.dmul db (FP.ddiv (FP.dsub (FP.dsub r1 (FP.dmul dm r0)) (FP.dmul dd 0)) dc))))]) := by
    intro t kt
    refine K160 t ?_
    refine X142.arraylength hx (by rw [e142]; exact (Ar161).1) (State.isArrayOf_alike hZ.alike (Ar161).2.1) (g := (mkF m 142 #[.val (.ref a0), .val (.ref a1), .val (.ref b3), .val (.ref b93), .val (.int (0 : Int32)), .val (.ref ra), .val (.ref ca), .val (.double (FP.dsub r0 (FP.dmul db (FP.ddiv (FP.dsub (FP.dsub r1 (FP.dmul dm r0)) (FP.dmul dd 0)) dc)))), .second, .val (.int (2 : Int32))] [(.ref ra), (.int (2 : Int32))])) rfl rfl (hb hby d6_142) _ ?_
    rw [len_of S161 M161]
    show own_S p e below T142 (mkF m 143 #[.val (.ref a0), .val (.ref a1), .val (.ref b3), .val (.ref b93), .val (.int (0 : Int32)), .val (.ref ra), .val (.ref ca), .val (.double (FP.dsub r0 (FP.dmul db (FP.ddiv (FP.dsub (FP.dsub r1 (FP.dmul dm r0)) (FP.dmul dd 0)) dc)))), .second, .val (.int (2 : Int32))] [(.int (3 : Int32)), (.int (2 : Int32))]) _
    refine XS.icmpNo X142.here hx rfl (hb hby d6_143) rfl (tlt (by decide)).2.1 ?_
    show own_S p e below T142 (mkF m 146 _ []) _
    refine XS.dload X142.here hx rfl (hb hby d6_146) rfl ?_
    show own_S p e below T142 (mkF m 148 _ [(.double (FP.dsub r0 (FP.dmul db (FP.ddiv (FP.dsub (FP.dsub r1 (FP.dmul dm r0)) (FP.dmul dd 0)) dc))))]) _
    refine XS.aload X142.here hx rfl (hb hby d6_148) rfl rfl ?_
    show own_S p e below T142 (mkF m 150 _ [(.ref ca), (.double (FP.dsub r0 (FP.dmul db (FP.ddiv (FP.dsub (FP.dsub r1 (FP.dmul dm r0)) (FP.dmul dd 0)) dc))))]) _
    refine XS.iload X142.here hx rfl (hb hby d6_150) rfl ?_
    show own_S p e below T142 (mkF m 152 _ [(.int (2 : Int32)), (.ref ca), (.double (FP.dsub r0 (FP.dmul db (FP.ddiv (FP.dsub (FP.dsub r1 (FP.dmul dm r0)) (FP.dmul dd 0)) dc))))]) _
    exact kt
  obtain ⟨cl163, Ar163, qq163, S163, M163, H163, GG163⟩ := id f153
  have hin163 : ¬ ((2 : Int32) < 0 ∨ cl163.slots.size ≤ ((2 : Int32)).toNatClampNeg) := inb_of S163 ⟨by decide, by decide⟩
  have hat163 : cl163.slots[((2 : Int32)).toNatClampNeg]? = some (.double dd) := Has.at H163 hin163 rfl
  have K164 : own_K p e below G0 T142 (mkF m 158 #[.val (.ref a0), .val (.ref a1), .val (.ref b3), .val (.ref b93), .val (.int (0 : Int32)), .val (.ref ra), .val (.ref ca), .val (.double (FP.dsub r0 (FP.dmul db (FP.ddiv (FP.dsub (FP.dsub r1 (FP.dmul dm r0)) (FP.dmul dd 0)) dc)))), .second, .val (.int (2 : Int32))] [(.int (2 : Int32)), (.ref ra), (.ref b93), (.double dd), (.double (FP.dsub r0 (FP.dmul db (FP.ddiv (FP.dsub (FP.dsub r1 (FP.dmul dm r0)) (FP.dmul dd 0)) dc))))]) := by
    intro t kt
    refine K162 t ?_
    refine X142.daload hx (j := (2 : Int32)) (v := (.double dd)) (by rw [e142]; exact (Ar163).1) (State.isArrayOf_alike hZ.alike (Ar163).2.1) (Ar163).2.2 hin163 hat163 (g := (mkF m 152 #[.val (.ref a0), .val (.ref a1), .val (.ref b3), .val (.ref b93), .val (.int (0 : Int32)), .val (.ref ra), .val (.ref ca), .val (.double (FP.dsub r0 (FP.dmul db (FP.ddiv (FP.dsub (FP.dsub r1 (FP.dmul dm r0)) (FP.dmul dd 0)) dc)))), .second, .val (.int (2 : Int32))] [(.int (2 : Int32)), (.ref ca), (.double (FP.dsub r0 (FP.dmul db (FP.ddiv (FP.dsub (FP.dsub r1 (FP.dmul dm r0)) (FP.dmul dd 0)) dc))))])) rfl rfl (hb hby d6_152) _ ?_
    show own_S p e below T142 (mkF m 153 _ [(.double dd), (.double (FP.dsub r0 (FP.dmul db (FP.ddiv (FP.dsub (FP.dsub r1 (FP.dmul dm r0)) (FP.dmul dd 0)) dc))))]) _
    refine XS.aloadN X142.here hx rfl (hb hby d6_153) rfl rfl ?_
    show own_S p e below T142 (mkF m 154 _ [(.ref b93), (.double dd), (.double (FP.dsub r0 (FP.dmul db (FP.ddiv (FP.dsub (FP.dsub r1 (FP.dmul dm r0)) (FP.dmul dd 0)) dc))))]) _
    refine XS.aload X142.here hx rfl (hb hby d6_154) rfl rfl ?_
    show own_S p e below T142 (mkF m 156 _ [(.ref ra), (.ref b93), (.double dd), (.double (FP.dsub r0 (FP.dmul db (FP.ddiv (FP.dsub (FP.dsub r1 (FP.dmul dm r0)) (FP.dmul dd 0)) dc))))]) _
    refine XS.iload X142.here hx rfl (hb hby d6_156) rfl ?_
    show own_S p e below T142 (mkF m 158 _ [(.int (2 : Int32)), (.ref ra), (.ref b93), (.double dd), (.double (FP.dsub r0 (FP.dmul db (FP.ddiv (FP.dsub (FP.dsub r1 (FP.dmul dm r0)) (FP.dmul dd 0)) dc))))]) _
    exact kt
  obtain ⟨cl165, Ar165, qq165, S165, M165, H165, GG165⟩ := id f150
  have hin165 : ¬ ((2 : Int32) < 0 ∨ cl165.slots.size ≤ ((2 : Int32)).toNatClampNeg) := inb_of S165 ⟨by decide, by decide⟩
  have hat165 : cl165.slots[((2 : Int32)).toNatClampNeg]? = some (.int gf) := Has.at H165 hin165 rfl
  have K166 : own_K p e below G0 T142 (mkF m 159 #[.val (.ref a0), .val (.ref a1), .val (.ref b3), .val (.ref b93), .val (.int (0 : Int32)), .val (.ref ra), .val (.ref ca), .val (.double (FP.dsub r0 (FP.dmul db (FP.ddiv (FP.dsub (FP.dsub r1 (FP.dmul dm r0)) (FP.dmul dd 0)) dc)))), .second, .val (.int (2 : Int32))] [(.int gf), (.ref b93), (.double dd), (.double (FP.dsub r0 (FP.dmul db (FP.ddiv (FP.dsub (FP.dsub r1 (FP.dmul dm r0)) (FP.dmul dd 0)) dc))))]) := by
    intro t kt
    refine K164 t ?_
    refine X142.iaload hx (j := (2 : Int32)) (v := (.int gf)) (by rw [e142]; exact (Ar165).1) (State.isArrayOf_alike hZ.alike (Ar165).2.1) (Ar165).2.2 hin165 hat165 (g := (mkF m 158 #[.val (.ref a0), .val (.ref a1), .val (.ref b3), .val (.ref b93), .val (.int (0 : Int32)), .val (.ref ra), .val (.ref ca), .val (.double (FP.dsub r0 (FP.dmul db (FP.ddiv (FP.dsub (FP.dsub r1 (FP.dmul dm r0)) (FP.dmul dd 0)) dc)))), .second, .val (.int (2 : Int32))] [(.int (2 : Int32)), (.ref ra), (.ref b93), (.double dd), (.double (FP.dsub r0 (FP.dmul db (FP.ddiv (FP.dsub (FP.dsub r1 (FP.dmul dm r0)) (FP.dmul dd 0)) dc))))])) rfl rfl (hb hby d6_158) _ ?_
    show own_S p e below T142 (mkF m 159 _ [(.int gf), (.ref b93), (.double dd), (.double (FP.dsub r0 (FP.dmul db (FP.ddiv (FP.dsub (FP.dsub r1 (FP.dmul dm r0)) (FP.dmul dd 0)) dc))))]) _
    exact kt
  obtain ⟨cl167, Ar167, qq167, S167, M167, H167, GG167⟩ := id VL132
  have hin167 := inb_of S167 (own_in3 hRf)
  have hat167 : cl167.slots[(gf).toNatClampNeg]? = some (.double 0) := Has.at H167 hin167 ((own_g3 hRf).trans ((own_u2 (Ne.symm n1f)).trans rfl))
  have K168 : own_K p e below G0 T142 (mkF m 167 #[.val (.ref a0), .val (.ref a1), .val (.ref b3), .val (.ref b93), .val (.int (0 : Int32)), .val (.ref ra), .val (.ref ca), .val (.double (FP.dsub (FP.dsub r0 (FP.dmul db (FP.ddiv (FP.dsub (FP.dsub r1 (FP.dmul dm r0)) (FP.dmul dd 0)) dc))) (FP.dmul dd 0))), .second, .val (.int ((2 : Int32) + (1 : Int32)))] []) := by
    intro t kt
    refine K166 t ?_
    refine X142.daload hx (j := gf) (v := (.double 0)) (by rw [e142]; exact (Ar167).1) (State.isArrayOf_alike hZ.alike (Ar167).2.1) (Ar167).2.2 hin167 hat167 (g := (mkF m 159 #[.val (.ref a0), .val (.ref a1), .val (.ref b3), .val (.ref b93), .val (.int (0 : Int32)), .val (.ref ra), .val (.ref ca), .val (.double (FP.dsub r0 (FP.dmul db (FP.ddiv (FP.dsub (FP.dsub r1 (FP.dmul dm r0)) (FP.dmul dd 0)) dc)))), .second, .val (.int (2 : Int32))] [(.int gf), (.ref b93), (.double dd), (.double (FP.dsub r0 (FP.dmul db (FP.ddiv (FP.dsub (FP.dsub r1 (FP.dmul dm r0)) (FP.dmul dd 0)) dc))))])) rfl rfl (hb hby d6_159) _ ?_
    show own_S p e below T142 (mkF m 160 _ [(.double 0), (.double dd), (.double (FP.dsub r0 (FP.dmul db (FP.ddiv (FP.dsub (FP.dsub r1 (FP.dmul dm r0)) (FP.dmul dd 0)) dc))))]) _
    refine XS.dmulS X142.here hx rfl (hb hby d6_160) rfl (own_V_nonan qc) rfl ?_
    show own_S p e below T142 (mkF m 161 _ [(.double (FP.dmul dd 0)), (.double (FP.dsub r0 (FP.dmul db (FP.ddiv (FP.dsub (FP.dsub r1 (FP.dmul dm r0)) (FP.dmul dd 0)) dc))))]) _
    refine XS.dsubS X142.here hx rfl (hb hby d6_161) rfl (own_V_nonan qh) rfl ?_
    show own_S p e below T142 (mkF m 162 _ [(.double (FP.dsub (FP.dsub r0 (FP.dmul db (FP.ddiv (FP.dsub (FP.dsub r1 (FP.dmul dm r0)) (FP.dmul dd 0)) dc))) (FP.dmul dd 0)))]) _
    refine XS.dstore X142.here hx rfl (hb hby d6_162) rfl (l' := #[.val (.ref a0), .val (.ref a1), .val (.ref b3), .val (.ref b93), .val (.int (0 : Int32)), .val (.ref ra), .val (.ref ca), .val (.double (FP.dsub (FP.dsub r0 (FP.dmul db (FP.ddiv (FP.dsub (FP.dsub r1 (FP.dmul dm r0)) (FP.dmul dd 0)) dc))) (FP.dmul dd 0))), .second, .val (.int (2 : Int32))]) rfl ?_
    show own_S p e below T142 (mkF m 164 _ []) _
    refine XS.iinc X142.here hx rfl (hb hby d6_164) rfl (l' := #[.val (.ref a0), .val (.ref a1), .val (.ref b3), .val (.ref b93), .val (.int (0 : Int32)), .val (.ref ra), .val (.ref ca), .val (.double (FP.dsub (FP.dsub r0 (FP.dmul db (FP.ddiv (FP.dsub (FP.dsub r1 (FP.dmul dm r0)) (FP.dmul dd 0)) dc))) (FP.dmul dd 0))), .second, .val (.int ((2 : Int32) + (1 : Int32)))]) rfl ?_
    show own_S p e below T142 (mkF m 167 _ []) _
    exact kt
  rw [show ((2 : Int32) + (1 : Int32)) = (3 : Int32) from by decide] at K168
  have K169 : own_K p e below G0 T142 (mkF m 142 #[.val (.ref a0), .val (.ref a1), .val (.ref b3), .val (.ref b93), .val (.int (0 : Int32)), .val (.ref ra), .val (.ref ca), .val (.double (FP.dsub (FP.dsub r0 (FP.dmul db (FP.ddiv (FP.dsub (FP.dsub r1 (FP.dmul dm r0)) (FP.dmul dd 0)) dc))) (FP.dmul dd 0))), .second, .val (.int (3 : Int32))] [(.ref ra), (.int (3 : Int32))]) := by
    intro t kt
    refine K168 t ?_
    refine XS.goto X142.here hx rfl (pc0 := 167) (pc' := 138) rfl (hb hby d6_167) (by decide) (by decide) ?_
    show own_S p e below T142 (mkF m 138 _ []) _
    refine XS.iload X142.here hx rfl (hb hby d6_138) rfl ?_
    show own_S p e below T142 (mkF m 140 _ [(.int (3 : Int32))]) _
    refine XS.aload X142.here hx rfl (hb hby d6_140) rfl rfl ?_
    show own_S p e below T142 (mkF m 142 _ [(.ref ra), (.int (3 : Int32))]) _
    exact kt
  obtain ⟨cl170, Ar170, qq170, S170, M170, H170, GG170⟩ := id f150
  have K171 : own_K p e below G0 T142 (mkF m 174 #[.val (.ref a0), .val (.ref a1), .val (.ref b3), .val (.ref b93), .val (.int (0 : Int32)), .val (.ref ra), .val (.ref ca), .val (.double (FP.dsub (FP.dsub r0 (FP.dmul db (FP.ddiv (FP.dsub (FP.dsub r1 (FP.dmul dm r0)) (FP.dmul dd 0)) dc))) (FP.dmul dd 0))), .second, .val (.int (3 : Int32))] [(.int (0 : Int32)), (.ref ra), (.ref b93)]) := by
    intro t kt
    refine K169 t ?_
    refine X142.arraylength hx (by rw [e142]; exact (Ar170).1) (State.isArrayOf_alike hZ.alike (Ar170).2.1) (g := (mkF m 142 #[.val (.ref a0), .val (.ref a1), .val (.ref b3), .val (.ref b93), .val (.int (0 : Int32)), .val (.ref ra), .val (.ref ca), .val (.double (FP.dsub (FP.dsub r0 (FP.dmul db (FP.ddiv (FP.dsub (FP.dsub r1 (FP.dmul dm r0)) (FP.dmul dd 0)) dc))) (FP.dmul dd 0))), .second, .val (.int (3 : Int32))] [(.ref ra), (.int (3 : Int32))])) rfl rfl (hb hby d6_142) _ ?_
    rw [len_of S170 M170]
    show own_S p e below T142 (mkF m 143 #[.val (.ref a0), .val (.ref a1), .val (.ref b3), .val (.ref b93), .val (.int (0 : Int32)), .val (.ref ra), .val (.ref ca), .val (.double (FP.dsub (FP.dsub r0 (FP.dmul db (FP.ddiv (FP.dsub (FP.dsub r1 (FP.dmul dm r0)) (FP.dmul dd 0)) dc))) (FP.dmul dd 0))), .second, .val (.int (3 : Int32))] [(.int (3 : Int32)), (.int (3 : Int32))]) _
    refine XS.icmpYes X142.here hx rfl (pc0 := 143) (pc' := 170) rfl (hb hby d6_143) rfl (flt (by decide)).2.1 (by decide) (by decide) ?_
    show own_S p e below T142 (mkF m 170 _ []) _
    refine XS.aloadN X142.here hx rfl (hb hby d6_170) rfl rfl ?_
    show own_S p e below T142 (mkF m 171 _ [(.ref b93)]) _
    refine XS.aload X142.here hx rfl (hb hby d6_171) rfl rfl ?_
    show own_S p e below T142 (mkF m 173 _ [(.ref ra), (.ref b93)]) _
    refine XS.iconst X142.here hx rfl (hb hby d6_173) ?_
    show own_S p e below T142 (mkF m 174 _ [(.int (0 : Int32)), (.ref ra), (.ref b93)]) _
    exact kt
  obtain ⟨cl172, Ar172, qq172, S172, M172, H172, GG172⟩ := id f150
  have hin172 : ¬ ((0 : Int32) < 0 ∨ cl172.slots.size ≤ ((0 : Int32)).toNatClampNeg) := inb_of S172 ⟨by decide, by decide⟩
  have hat172 : cl172.slots[((0 : Int32)).toNatClampNeg]? = some (.int g0) := Has.at H172 hin172 rfl
  have K173 : own_K p e below G0 T142 (mkF m 180 #[.val (.ref a0), .val (.ref a1), .val (.ref b3), .val (.ref b93), .val (.int (0 : Int32)), .val (.ref ra), .val (.ref ca), .val (.double (FP.dsub (FP.dsub r0 (FP.dmul db (FP.ddiv (FP.dsub (FP.dsub r1 (FP.dmul dm r0)) (FP.dmul dd 0)) dc))) (FP.dmul dd 0))), .second, .val (.int (3 : Int32))] [(.int (0 : Int32)), (.ref ca), (.double (FP.dsub (FP.dsub r0 (FP.dmul db (FP.ddiv (FP.dsub (FP.dsub r1 (FP.dmul dm r0)) (FP.dmul dd 0)) dc))) (FP.dmul dd 0))), (.int g0), (.ref b93)]) := by
    intro t kt
    refine K171 t ?_
    refine X142.iaload hx (j := (0 : Int32)) (v := (.int g0)) (by rw [e142]; exact (Ar172).1) (State.isArrayOf_alike hZ.alike (Ar172).2.1) (Ar172).2.2 hin172 hat172 (g := (mkF m 174 #[.val (.ref a0), .val (.ref a1), .val (.ref b3), .val (.ref b93), .val (.int (0 : Int32)), .val (.ref ra), .val (.ref ca), .val (.double (FP.dsub (FP.dsub r0 (FP.dmul db (FP.ddiv (FP.dsub (FP.dsub r1 (FP.dmul dm r0)) (FP.dmul dd 0)) dc))) (FP.dmul dd 0))), .second, .val (.int (3 : Int32))] [(.int (0 : Int32)), (.ref ra), (.ref b93)])) rfl rfl (hb hby d6_174) _ ?_
    show own_S p e below T142 (mkF m 175 _ [(.int g0), (.ref b93)]) _
    refine XS.dload X142.here hx rfl (hb hby d6_175) rfl ?_
    show own_S p e below T142 (mkF m 177 _ [(.double (FP.dsub (FP.dsub r0 (FP.dmul db (FP.ddiv (FP.dsub (FP.dsub r1 (FP.dmul dm r0)) (FP.dmul dd 0)) dc))) (FP.dmul dd 0))), (.int g0), (.ref b93)]) _
    refine XS.aload X142.here hx rfl (hb hby d6_177) rfl rfl ?_
    show own_S p e below T142 (mkF m 179 _ [(.ref ca), (.double (FP.dsub (FP.dsub r0 (FP.dmul db (FP.ddiv (FP.dsub (FP.dsub r1 (FP.dmul dm r0)) (FP.dmul dd 0)) dc))) (FP.dmul dd 0))), (.int g0), (.ref b93)]) _
    refine XS.iconst X142.here hx rfl (hb hby d6_179) ?_
    show own_S p e below T142 (mkF m 180 _ [(.int (0 : Int32)), (.ref ca), (.double (FP.dsub (FP.dsub r0 (FP.dmul db (FP.ddiv (FP.dsub (FP.dsub r1 (FP.dmul dm r0)) (FP.dmul dd 0)) dc))) (FP.dmul dd 0))), (.int g0), (.ref b93)]) _
    exact kt
  obtain ⟨cl174, Ar174, qq174, S174, M174, H174, GG174⟩ := id f153
  have hin174 : ¬ ((0 : Int32) < 0 ∨ cl174.slots.size ≤ ((0 : Int32)).toNatClampNeg) := inb_of S174 ⟨by decide, by decide⟩
  have hat174 : cl174.slots[((0 : Int32)).toNatClampNeg]? = some (.double da) := Has.at H174 hin174 rfl
  have K175 : own_K p e below G0 T142 (mkF m 182 #[.val (.ref a0), .val (.ref a1), .val (.ref b3), .val (.ref b93), .val (.int (0 : Int32)), .val (.ref ra), .val (.ref ca), .val (.double (FP.dsub (FP.dsub r0 (FP.dmul db (FP.ddiv (FP.dsub (FP.dsub r1 (FP.dmul dm r0)) (FP.dmul dd 0)) dc))) (FP.dmul dd 0))), .second, .val (.int (3 : Int32))] [(.double (FP.ddiv (FP.dsub (FP.dsub r0 (FP.dmul db (FP.ddiv (FP.dsub (FP.dsub r1 (FP.dmul dm r0)) (FP.dmul dd 0)) dc))) (FP.dmul dd 0)) da)), (.int g0), (.ref b93)]) := by
    intro t kt
    refine K173 t ?_
    refine X142.daload hx (j := (0 : Int32)) (v := (.double da)) (by rw [e142]; exact (Ar174).1) (State.isArrayOf_alike hZ.alike (Ar174).2.1) (Ar174).2.2 hin174 hat174 (g := (mkF m 180 #[.val (.ref a0), .val (.ref a1), .val (.ref b3), .val (.ref b93), .val (.int (0 : Int32)), .val (.ref ra), .val (.ref ca), .val (.double (FP.dsub (FP.dsub r0 (FP.dmul db (FP.ddiv (FP.dsub (FP.dsub r1 (FP.dmul dm r0)) (FP.dmul dd 0)) dc))) (FP.dmul dd 0))), .second, .val (.int (3 : Int32))] [(.int (0 : Int32)), (.ref ca), (.double (FP.dsub (FP.dsub r0 (FP.dmul db (FP.ddiv (FP.dsub (FP.dsub r1 (FP.dmul dm r0)) (FP.dmul dd 0)) dc))) (FP.dmul dd 0))), (.int g0), (.ref b93)])) rfl rfl (hb hby d6_180) _ ?_
    show own_S p e below T142 (mkF m 181 _ [(.double da), (.double (FP.dsub (FP.dsub r0 (FP.dmul db (FP.ddiv (FP.dsub (FP.dsub r1 (FP.dmul dm r0)) (FP.dmul dd 0)) dc))) (FP.dmul dd 0))), (.int g0), (.ref b93)]) _
    refine XS.ddivS X142.here hx rfl (hb hby d6_181) rfl (own_V_nonan qy) rfl ?_
    show own_S p e below T142 (mkF m 182 _ [(.double (FP.ddiv (FP.dsub (FP.dsub r0 (FP.dmul db (FP.ddiv (FP.dsub (FP.dsub r1 (FP.dmul dm r0)) (FP.dmul dd 0)) dc))) (FP.dmul dd 0)) da)), (.int g0), (.ref b93)]) _
    exact kt
  obtain ⟨cl176, Ar176, qq176, S176, M176, H176, GG176⟩ := id VL132
  have hin176 := inb_of S176 (own_in3 hR0)
  obtain ⟨T177, h177, X177, e177, W177, st177⟩ := stD X142 hx hZ e142 Ar176 (j := g0) hin176 (g := (mkF m 182 #[.val (.ref a0), .val (.ref a1), .val (.ref b3), .val (.ref b93), .val (.int (0 : Int32)), .val (.ref ra), .val (.ref ca), .val (.double (FP.dsub (FP.dsub r0 (FP.dmul db (FP.ddiv (FP.dsub (FP.dsub r1 (FP.dmul dm r0)) (FP.dmul dd 0)) dc))) (FP.dmul dd 0))), .second, .val (.int (3 : Int32))] [(.double (FP.ddiv (FP.dsub (FP.dsub r0 (FP.dmul db (FP.ddiv (FP.dsub (FP.dsub r1 (FP.dmul dm r0)) (FP.dmul dd 0)) dc))) (FP.dmul dd 0)) da)), (.int g0), (.ref b93)])) rfl rfl (hb hby d6_182)
  have K177 : own_K p e below G0 T177 (mkF m 183 #[.val (.ref a0), .val (.ref a1), .val (.ref b3), .val (.ref b93), .val (.int (0 : Int32)), .val (.ref ra), .val (.ref ca), .val (.double (FP.dsub (FP.dsub r0 (FP.dmul db (FP.ddiv (FP.dsub (FP.dsub r1 (FP.dmul dm r0)) (FP.dmul dd 0)) dc))) (FP.dmul dd 0))), .second, .val (.int (3 : Int32))] []) := fun t kt => K175 t (st177 _ kt)
  have Z177 : n0 ≤ h177.size := Nat.le_trans Z132 (Keep.of_wr W177).1
  have VL177 : Arv Z h177 b93 k93 .double (3 : Int32) (own_l3 (own_u g0 (.double (FP.ddiv (FP.dsub (FP.dsub r0 (FP.dmul db (FP.ddiv (FP.dsub (FP.dsub r1 (FP.dmul dm r0)) (FP.dmul dd 0)) dc))) (FP.dmul dd 0)) da)) (own_u g1 (.double (FP.ddiv (FP.dsub (FP.dsub r1 (FP.dmul dm r0)) (FP.dmul dd 0)) dc)) (fun _ => (.double 0))))) (.double 0) := by
    rw [← own_s3 hR0]
    exact Arv.set Ar176 qq176 S176 M176 H176 GG176 rfl W177 (g0).toNatClampNeg rfl (own_n3 hR0)
  have N177 := Fr.snoc X177 N132 gn93
  have K178 : own_K p e below G0 T177 (mkF m 186 #[.val (.ref a0), .val (.ref a1), .val (.ref b3), .val (.ref b93), .val (.int ((0 : Int32) + (-1 : Int32))), .val (.ref ra), .val (.ref ca), .val (.double (FP.dsub (FP.dsub r0 (FP.dmul db (FP.ddiv (FP.dsub (FP.dsub r1 (FP.dmul dm r0)) (FP.dmul dd 0)) dc))) (FP.dmul dd 0))), .second, .val (.int (3 : Int32))] []) := by
    intro t kt
    refine K177 t ?_
    refine XS.iinc X177.here hx rfl (hb hby d6_183) rfl (l' := #[.val (.ref a0), .val (.ref a1), .val (.ref b3), .val (.ref b93), .val (.int ((0 : Int32) + (-1 : Int32))), .val (.ref ra), .val (.ref ca), .val (.double (FP.dsub (FP.dsub r0 (FP.dmul db (FP.ddiv (FP.dsub (FP.dsub r1 (FP.dmul dm r0)) (FP.dmul dd 0)) dc))) (FP.dmul dd 0))), .second, .val (.int (3 : Int32))]) rfl ?_
    show own_S p e below T177 (mkF m 186 _ []) _
    exact kt
  rw [show ((0 : Int32) + (-1 : Int32)) = (-1 : Int32) from by decide] at K178
  have K179 : own_K p e below G0 T177 (mkF m 190 #[.val (.ref a0), .val (.ref a1), .val (.ref b3), .val (.ref b93), .val (.int (-1 : Int32)), .val (.ref ra), .val (.ref ca), .val (.double (FP.dsub (FP.dsub r0 (FP.dmul db (FP.ddiv (FP.dsub (FP.dsub r1 (FP.dmul dm r0)) (FP.dmul dd 0)) dc))) (FP.dmul dd 0))), .second, .val (.int (3 : Int32))] [(.ref b93)]) := by
    intro t kt
    refine K178 t ?_
    refine XS.goto X177.here hx rfl (pc0 := 186) (pc' := 106) rfl (hb hby d6_186) (by decide) (by decide) ?_
    show own_S p e below T177 (mkF m 106 _ []) _
    refine XS.iload X177.here hx rfl (hb hby d6_106) rfl ?_
    show own_S p e below T177 (mkF m 108 _ [(.int (-1 : Int32))]) _
    refine XS.ifYes X177.here hx rfl (pc0 := 108) (pc' := 189) rfl (hb hby d6_108) rfl ((if0 _ _).trans (tlt (by decide)).1) (by decide) (by decide) ?_
    show own_S p e below T177 (mkF m 189 _ []) _
    refine XS.aloadN X177.here hx rfl (hb hby d6_189) rfl rfl ?_
    show own_S p e below T177 (mkF m 190 _ [(.ref b93)]) _
    exact kt
  have KQ180_0 := Keep.refl h0 []
  have sz180_3 := Nat.le_trans KQ180_0.1 (Nat.le_of_eq g3.symm)
  have KQ180_1 := KQ180_0.ext E3
  have KQ180_2 := KQ180_1.wr W24 (Or.inr sz180_3)
  have KQ180_3 := KQ180_2.wr W71 (Or.inr sz180_3)
  have sz180_93 := Nat.le_trans KQ180_3.1 (Nat.le_of_eq g93.symm)
  have KQ180_4 := KQ180_3.ext E93
  have KQ180_5 := KQ180_4.wr W132 (Or.inr sz180_93)
  have KQ180_6 := KQ180_5.wr W177 (Or.inr sz180_93)
  obtain ⟨fs, hr, hrun, hended, hW, hsame⟩ := X177.leave (v := some (.ref b93)) (fun h => by rw [Bd.returns] at h; cases h)
  refine ⟨_, _, ?_, hrun, hended, _, _, rfl, ?_, ⟨_, rfl⟩, hW, hsame.mono (by decide) (by decide)⟩
  · rw [← hG0]
    refine K179 _ ?_
    exact retOut X177 hx (t := (.array .double)) Bd.returns rfl (Or.inr (Or.inr (Or.inr (Or.inr ⟨rfl, rfl, rfl⟩)))) (hb hby d6_190) hr
  · show Q6_11 Z a0 a1 rb ml ln pe pu pc ra ca rc cc kr km kl ke ku kc kq rd fr fm fl fq x2 x3 x4 ea eb g0 g1 gf r0 r1 da db dc dd R0 R1 M A A' B C C' D q1 q2 k1 k2 dm h0 n0 _ T177.heap _
    rw [e177]
    exact ⟨b93, k93, (FP.ddiv (FP.dsub (FP.dsub r0 (FP.dmul db (FP.ddiv (FP.dsub (FP.dsub r1 (FP.dmul dm r0)) (FP.dmul dd 0)) dc))) (FP.dmul dd 0)) da), (FP.ddiv (FP.dsub (FP.dsub r1 (FP.dmul dm r0)) (FP.dmul dd 0)) dc), rfl, N177, KQ180_6, VL177, qx, qy⟩
theorem ef_rm6_10 (m : MethodId) (a0 : Addr) (a1 : Addr) : entryFrame m #[(.ref a0), (.ref a1)] 10 = (mkF m 0 #[.val (.ref a0), .val (.ref a1), .unset, .unset, .unset, .unset, .unset, .unset, .unset, .unset] []) := by first | (simp [entryFrame, mkF, argsToLocals, Value.category]; done) | rfl
def Q6_10 (Z : State) (a0 : Addr) (a1 : Addr) (rb : Addr) (ml : Addr) (ln : Addr) (pe : Addr) (pu : Addr) (pc : Addr) (ra : Addr) (ca : Addr) (rc : Addr) (cc : Addr) (kr : ClassId) (km : ClassId) (kl : ClassId) (ke : ClassId) (ku : ClassId) (kc : ClassId) (kq : ClassId) (rd : Int64) (fr : Int32 → Value) (fm : Int32 → Value) (fl : Int32 → Value) (fq : Int32 → Value) (x2 : Value) (x3 : Value) (x4 : Value) (ea : Int32) (eb : Int32) (g0 : Int32) (g1 : Int32) (gf : Int32) (r0 : UInt64) (r1 : UInt64) (da : UInt64) (db : UInt64) (dc : UInt64) (dd : UInt64) (R0 : Int) (R1 : Int) (M : Int) (A : Int) (A' : Int) (B : Int) (C : Int) (C' : Int) (D : Int) (q1 : Addr) (q2 : Addr) (k1 : ClassId) (k2 : ClassId) (dm : UInt64) (h0 : Heap) (n0 : Nat) (v : Option Value) (h : Heap) (L : List Loc) : Prop := ∃ (r : Addr) (kx : ClassId) (x0 x1 : UInt64), v = some (.ref r) ∧ Fr n0 L ∧ Keep h0 h [] ∧ Arv Z h r kx .double (3 : Int32) (own_l3 (own_u g0 (.double x0) (own_u g1 (.double x1) (fun _ => (.double 0))))) (.double 0) ∧ own_V 3 ((R1 - M * R0) * C') x1 ∧ own_V 6 ((R0 * 8 - B * ((R1 - M * R0) * C')) * A') x0
set_option maxRecDepth 65536 in
set_option maxHeartbeats 40000000 in
theorem rm6_10 (l : Launch) (Z : State) (aa : Array Value) (hw : ∀ d ∈ tables_1, d.before aa Z = true) (ws : List Jvm.Cond) (a0 : Addr) (a1 : Addr) (rb : Addr) (ml : Addr) (ln : Addr) (pe : Addr) (pu : Addr) (pc : Addr) (ra : Addr) (ca : Addr) (rc : Addr) (cc : Addr) (kr : ClassId) (km : ClassId) (kl : ClassId) (ke : ClassId) (ku : ClassId) (kc : ClassId) (kq : ClassId) (rd : Int64) (fr : Int32 → Value) (fm : Int32 → Value) (fl : Int32 → Value) (fq : Int32 → Value) (x2 : Value) (x3 : Value) (x4 : Value) (ea : Int32) (eb : Int32) (g0 : Int32) (g1 : Int32) (gf : Int32) (r0 : UInt64) (r1 : UInt64) (da : UInt64) (db : UInt64) (dc : UInt64) (dd : UInt64) (R0 : Int) (R1 : Int) (M : Int) (A : Int) (A' : Int) (B : Int) (C : Int) (C' : Int) (D : Int) (q1 : Addr) (q2 : Addr) (k1 : ClassId) (k2 : ClassId) (dm : UInt64) (h0 : Heap) (n0 : Nat) (Z0 : n0 ≤ h0.size) (FA : own_Fac Z h0 a0 rb ml ln pe pu pc kr km kl ke ku kc (3 : Int32) (2 : Int32) rd (own_l3 fr) (own_l3 fm) (own_l3 fl) [(.int ea), (.int eb), x2] [(.ref ra), (.ref rc), x3] [(.ref ca), (.ref cc), x4]) (V_q : Arv Z h0 a1 kq .double (3 : Int32) (own_l3 fq) (.double 0)) (hq0 : fq ea = (.double r0)) (hq1 : fq eb = (.double r1)) (hRa : own_R ea) (hRb : own_R eb) (hR0 : own_R g0) (hR1 : own_R g1) (hRf : own_R gf) (n01 : g0 ≠ g1) (n0f : g0 ≠ gf) (n1f : g1 ≠ gf) (hl0 : fl ea = (.int (0 : Int32))) (v0 : own_V 0 R0 r0) (v1 : own_V 0 R1 r1) (va : own_V 0 A da) (vb : own_V 0 B db) (vc : own_V 0 C dc) (vd : own_V 0 D dd) (aa' : A * A' = 8) (cc' : C * C' = 8) (ba : A'.natAbs ≤ 8) (bc : C'.natAbs ≤ 8) (bb : B.natAbs ≤ 8) (bm : M.natAbs ≤ 8) (b0 : R0.natAbs ≤ 2147483648) (b1 : R1.natAbs ≤ 2147483648) (RW : own_Rows Z h0 false ra ca rc cc g0 g1 gf da db dc dd) (hl1 : fl eb = (.int (1 : Int32))) (hfr : fr eb = (.ref q1)) (hfm : fm eb = (.ref q2)) (V_q1 : Arv Z h0 q1 k1 .int (4 : Int32) [(.int (0 : Int32)), (.int (0 : Int32)), (.int (0 : Int32)), (.int (0 : Int32))] (.int (0 : Int32))) (V_q2 : Arv Z h0 q2 k2 .double (4 : Int32) [(.double dm), (.double 0), (.double 0), (.double 0)] (.double 0)) (vm : own_V 0 M dm) :
    MetFree l (⟨"com/example/sondage/sondage/inference/Factorization", "solve", "([D)[D"⟩ : MethodName) (head1 (Jvm.Cond.code (⟨"com/example/sondage/sondage/inference/Factorization", "solve", "([D)[D"⟩ : MethodName) prog_18_method_7_code 10 (some (.array .double)) :: ws) ({ frames := 0, cells := 2, slots := 5, locals := 0 } : Room)) (fun a U => a = #[(.ref a0), (.ref a1)] ∧ Z.Warmed39 U.vm ∧ U.heap = h0) (fun _ _ _ _ _ => True) (fun _ U o U' => ∃ v L, o = .returned v ∧ Q6_10 Z a0 a1 rb ml ln pe pu pc ra ca rc cc kr km kl ke ku kc kq rd fr fm fl fq x2 x3 x4 ea eb g0 g1 gf r0 r1 da db dc dd R0 R1 M A A' B C C' D q1 q2 k1 k2 dm h0 n0 v U'.heap L ∧ FrameEnd U o U' L ({ frames := 0, cells := 2, slots := 5, locals := 0 } : Room).cells ({ frames := 0, cells := 2, slots := 5, locals := 0 } : Room).slots) := by
  refine MetFree.of_bodySF (plainFor_of_name pn_com_example_sondage_sondage_inference_Factorization) hisR ?_
  intro p e s m args below meth c s₁ Bd hml0 hP hK
  obtain ⟨rfl, hZ, hh⟩ := hP
  have hx := Bd.exec
  have hby := Bd.bytes
  have hml : c.maxLocals = 10 := hml0
  have hown : s.vm.findClass "com/example/sondage/sondage/inference/Factorization" = some m.cls := findClass_of_methodNamed Bd.named
  have hnm := (name_of_methodNamed Bd.named Bd.method).1
  have X0 : Stand p l e ({ frames := 0, cells := 2, slots := 5, locals := 0 } : Room) s m #[(.ref a0), (.ref a1)] below meth c s₁ [] 0 0 := Stand.of_body Bd
  have e0 : s₁.heap = h0 := by rw [← hh, Bd.state]; rfl
  have N0 := Fr.nil n0
  obtain ⟨G0, hG0⟩ : ∃ G, G = s₁.setTop (entryFrame m #[(.ref a0), (.ref a1)] 10) := ⟨_, rfl⟩
  have K0 : own_K p e below G0 s₁ (mkF m 0 #[.val (.ref a0), .val (.ref a1), .unset, .unset, .unset, .unset, .unset, .unset, .unset, .unset] []) := fun t k => by rw [hG0]; exact castTop (ef_rm6_10 m a0 a1) k
  obtain ⟨fc_0, fc_1, fc_2, fc_3, fc_4, fc_5, fc_6, fc_7, fc_8, fc_9, fc_10, fc_11, fc_12, fc_13, fc_14, fc_15⟩ := id FA
  obtain ⟨kh1, kh2, kh3, kh4, V_ra, V_ca, V_rc, V_cc⟩ := RW
  obtain ⟨qa, qb⟩ := own_numR v0 v1 vm b0 b1 bm
  have bv := own_numV b0 b1 bm
  have qx := own_numX qb vc cc' bc bv
  have bn := own_ab bv bc
  obtain ⟨qe, qf, qg⟩ := own_numT v0 vb qx b0 bb (by omega)
  have qy := own_numY qf va aa' ba qg
  have K1 : own_K p e below G0 s₁ (mkF m 1 #[.val (.ref a0), .val (.ref a1), .unset, .unset, .unset, .unset, .unset, .unset, .unset, .unset] [(.ref a0)]) := by
    intro t kt
    refine K0 t ?_
    refine XS.aloadN X0.here hx rfl (hb hby d6_0) rfl rfl ?_
    show own_S p e below s₁ (mkF m 1 _ [(.ref a0)]) _
    exact kt
  obtain ⟨T2, X2, e2, st2⟩ := getF X0 hx hZ hown (host := "") (Or.inl (hw _ (List.mem_of_getElem? (i := 43) rfl))) Via.refl e0 fc_2 (g := (mkF m 1 #[.val (.ref a0), .val (.ref a1), .unset, .unset, .unset, .unset, .unset, .unset, .unset, .unset] [(.ref a0)])) rfl rfl (hb hby d6_1)
  have K2 : own_K p e below G0 T2 (mkF m 4 #[.val (.ref a0), .val (.ref a1), .unset, .unset, .unset, .unset, .unset, .unset, .unset, .unset] [(.int (2 : Int32))]) := fun t kt => K1 t (st2 _ kt)
  obtain ⟨T3, h3, k3, X3, e3, E3, A3, st3⟩ := newP X2 hx hZ (hw _ (List.mem_of_getElem? (i := 4) rfl)) e2 (g := (mkF m 4 #[.val (.ref a0), .val (.ref a1), .unset, .unset, .unset, .unset, .unset, .unset, .unset, .unset] [(.int (2 : Int32))])) rfl (hb hby d6_4) rfl (by decide) (cap := 2) (by decide) (by decide) (by decide) (by decide)
  obtain ⟨b3, g3⟩ : ∃ z, z = h0.size := ⟨_, rfl⟩
  rw [← g3] at A3 st3
  have V3 := Arv.new A3 (by decide)
  have gn3 : n0 ≤ b3 := Nat.le_trans Z0 (Nat.le_of_eq g3.symm)
  have Z3 : n0 ≤ h3.size := Nat.le_trans Z0 E3.1
  have K3 : own_K p e below G0 T3 (mkF m 6 #[.val (.ref a0), .val (.ref a1), .unset, .unset, .unset, .unset, .unset, .unset, .unset, .unset] [(.ref b3)]) := fun t kt => K2 t (st3 _ kt)
  have ne_a0_b3 : a0 ≠ b3 := Nat.ne_of_lt (Nat.lt_of_lt_of_le (fc_0).lt (Nat.le_of_eq g3.symm))
  have ne_rb_b3 : rb ≠ b3 := Nat.ne_of_lt (Nat.lt_of_lt_of_le (fc_10).lt (Nat.le_of_eq g3.symm))
  have ne_ml_b3 : ml ≠ b3 := Nat.ne_of_lt (Nat.lt_of_lt_of_le (fc_11).lt (Nat.le_of_eq g3.symm))
  have ne_ln_b3 : ln ≠ b3 := Nat.ne_of_lt (Nat.lt_of_lt_of_le (fc_12).lt (Nat.le_of_eq g3.symm))
  have ne_pe_b3 : pe ≠ b3 := Nat.ne_of_lt (Nat.lt_of_lt_of_le (fc_13).lt (Nat.le_of_eq g3.symm))
  have ne_pu_b3 : pu ≠ b3 := Nat.ne_of_lt (Nat.lt_of_lt_of_le (fc_14).lt (Nat.le_of_eq g3.symm))
  have ne_pc_b3 : pc ≠ b3 := Nat.ne_of_lt (Nat.lt_of_lt_of_le (fc_15).lt (Nat.le_of_eq g3.symm))
  have ne_a1_b3 : a1 ≠ b3 := Nat.ne_of_lt (Nat.lt_of_lt_of_le (V_q).lt (Nat.le_of_eq g3.symm))
  have ne_ra_b3 : ra ≠ b3 := Nat.ne_of_lt (Nat.lt_of_lt_of_le (V_ra).lt (Nat.le_of_eq g3.symm))
  have ne_ca_b3 : ca ≠ b3 := Nat.ne_of_lt (Nat.lt_of_lt_of_le (V_ca).lt (Nat.le_of_eq g3.symm))
  have ne_rc_b3 : rc ≠ b3 := Nat.ne_of_lt (Nat.lt_of_lt_of_le (V_rc).lt (Nat.le_of_eq g3.symm))
  have ne_cc_b3 : cc ≠ b3 := Nat.ne_of_lt (Nat.lt_of_lt_of_le (V_cc).lt (Nat.le_of_eq g3.symm))
  have ne_q1_b3 : q1 ≠ b3 := Nat.ne_of_lt (Nat.lt_of_lt_of_le (V_q1).lt (Nat.le_of_eq g3.symm))
  have ne_q2_b3 : q2 ≠ b3 := Nat.ne_of_lt (Nat.lt_of_lt_of_le (V_q2).lt (Nat.le_of_eq g3.symm))
  have VL3 : Arv Z h3 b3 k3 .double (2 : Int32) [(.double 0), (.double 0)] (.double 0) := V3.pad (pad_rep [] (.double 0) 2)
  have K4 : own_K p e below G0 T3 (mkF m 11 #[.val (.ref a0), .val (.ref a1), .val (.ref b3), .val (.int (0 : Int32)), .unset, .unset, .unset, .unset, .unset, .unset] [(.ref a0), (.int (0 : Int32))]) := by
    intro t kt
    refine K3 t ?_
    refine XS.astoreN X3.here hx rfl (hb hby d6_6) rfl rfl (l' := #[.val (.ref a0), .val (.ref a1), .val (.ref b3), .unset, .unset, .unset, .unset, .unset, .unset, .unset]) rfl ?_
    show own_S p e below T3 (mkF m 7 _ []) _
    refine XS.iconst X3.here hx rfl (hb hby d6_7) ?_
    show own_S p e below T3 (mkF m 8 _ [(.int (0 : Int32))]) _
    refine XS.istoreN X3.here hx rfl (hb hby d6_8) rfl (l' := #[.val (.ref a0), .val (.ref a1), .val (.ref b3), .val (.int (0 : Int32)), .unset, .unset, .unset, .unset, .unset, .unset]) rfl ?_
    show own_S p e below T3 (mkF m 9 _ []) _
    refine XS.iloadN X3.here hx rfl (hb hby d6_9) rfl ?_
    show own_S p e below T3 (mkF m 10 _ [(.int (0 : Int32))]) _
    refine XS.aloadN X3.here hx rfl (hb hby d6_10) rfl rfl ?_
    show own_S p e below T3 (mkF m 11 _ [(.ref a0), (.int (0 : Int32))]) _
    exact kt
  have f5 := (fc_2.ext E3)
  obtain ⟨T6, X6, e6, st6⟩ := getF X3 hx hZ hown (host := "") (Or.inl (hw _ (List.mem_of_getElem? (i := 43) rfl))) Via.refl e3 f5 (g := (mkF m 11 #[.val (.ref a0), .val (.ref a1), .val (.ref b3), .val (.int (0 : Int32)), .unset, .unset, .unset, .unset, .unset, .unset] [(.ref a0), (.int (0 : Int32))])) rfl rfl (hb hby d6_11)
  have K6 : own_K p e below G0 T6 (mkF m 14 #[.val (.ref a0), .val (.ref a1), .val (.ref b3), .val (.int (0 : Int32)), .unset, .unset, .unset, .unset, .unset, .unset] [(.int (2 : Int32)), (.int (0 : Int32))]) := fun t kt => K4 t (st6 _ kt)
  have K7 : own_K p e below G0 T6 (mkF m 18 #[.val (.ref a0), .val (.ref a1), .val (.ref b3), .val (.int (0 : Int32)), .unset, .unset, .unset, .unset, .unset, .unset] [(.ref a0)]) := by
    intro t kt
    refine K6 t ?_
    refine XS.icmpNo X6.here hx rfl (hb hby d6_14) rfl (tlt (by decide)).2.1 ?_
    show own_S p e below T6 (mkF m 17 _ []) _
    refine XS.aloadN X6.here hx rfl (hb hby d6_17) rfl rfl ?_
    show own_S p e below T6 (mkF m 18 _ [(.ref a0)]) _
    exact kt
  have f8 := (fc_7.ext E3)
  obtain ⟨T9, X9, e9, st9⟩ := getF X6 hx hZ hown (host := "") (Or.inl (hw _ (List.mem_of_getElem? (i := 32) rfl))) Via.refl e6 f8 (g := (mkF m 18 #[.val (.ref a0), .val (.ref a1), .val (.ref b3), .val (.int (0 : Int32)), .unset, .unset, .unset, .unset, .unset, .unset] [(.ref a0)])) rfl rfl (hb hby d6_18)
  have K9 : own_K p e below G0 T9 (mkF m 21 #[.val (.ref a0), .val (.ref a1), .val (.ref b3), .val (.int (0 : Int32)), .unset, .unset, .unset, .unset, .unset, .unset] [(.ref pe)]) := fun t kt => K7 t (st9 _ kt)
  have K10 : own_K p e below G0 T9 (mkF m 22 #[.val (.ref a0), .val (.ref a1), .val (.ref b3), .val (.int (0 : Int32)), .unset, .unset, .unset, .unset, .unset, .unset] [(.int (0 : Int32)), (.ref pe)]) := by
    intro t kt
    refine K9 t ?_
    refine XS.iloadN X9.here hx rfl (hb hby d6_21) rfl ?_
    show own_S p e below T9 (mkF m 22 _ [(.int (0 : Int32)), (.ref pe)]) _
    exact kt
  have f11 := (fc_13.ext E3)
  obtain ⟨cl12, Ar12, qq12, S12, M12, H12, GG12⟩ := id f11
  have hin12 : ¬ ((0 : Int32) < 0 ∨ cl12.slots.size ≤ ((0 : Int32)).toNatClampNeg) := inb_of S12 ⟨by decide, by decide⟩
  have hat12 : cl12.slots[((0 : Int32)).toNatClampNeg]? = some (.int ea) := Has.at H12 hin12 rfl
  have K13 : own_K p e below G0 T9 (mkF m 28 #[.val (.ref a0), .val (.ref a1), .val (.ref b3), .val (.int (0 : Int32)), .val (.int ea), .unset, .unset, .unset, .unset, .unset] [(.int ea), (.ref a1)]) := by
    intro t kt
    refine K10 t ?_
    refine X9.iaload hx (j := (0 : Int32)) (v := (.int ea)) (by rw [e9]; exact (Ar12).1) (State.isArrayOf_alike hZ.alike (Ar12).2.1) (Ar12).2.2 hin12 hat12 (g := (mkF m 22 #[.val (.ref a0), .val (.ref a1), .val (.ref b3), .val (.int (0 : Int32)), .unset, .unset, .unset, .unset, .unset, .unset] [(.int (0 : Int32)), (.ref pe)])) rfl rfl (hb hby d6_22) _ ?_
    show own_S p e below T9 (mkF m 23 _ [(.int ea)]) _
    refine XS.istore X9.here hx rfl (hb hby d6_23) rfl (l' := #[.val (.ref a0), .val (.ref a1), .val (.ref b3), .val (.int (0 : Int32)), .val (.int ea), .unset, .unset, .unset, .unset, .unset]) rfl ?_
    show own_S p e below T9 (mkF m 25 _ []) _
    refine XS.aloadN X9.here hx rfl (hb hby d6_25) rfl rfl ?_
    show own_S p e below T9 (mkF m 26 _ [(.ref a1)]) _
    refine XS.iload X9.here hx rfl (hb hby d6_26) rfl ?_
    show own_S p e below T9 (mkF m 28 _ [(.int ea), (.ref a1)]) _
    exact kt
  have f14 := (V_q.ext E3)
  obtain ⟨cl15, Ar15, qq15, S15, M15, H15, GG15⟩ := id f14
  have hin15 := inb_of S15 (own_in3 hRa)
  have hat15 : cl15.slots[(ea).toNatClampNeg]? = some (.double r0) := Has.at H15 hin15 ((own_g3 hRa).trans hq0)
  have K16 : own_K p e below G0 T9 (mkF m 37 #[.val (.ref a0), .val (.ref a1), .val (.ref b3), .val (.int (0 : Int32)), .val (.int ea), .val (.double r0), .second, .val (.int (0 : Int32)), .unset, .unset] [(.ref a0), (.int (0 : Int32))]) := by
    intro t kt
    refine K13 t ?_
    refine X9.daload hx (j := ea) (v := (.double r0)) (by rw [e9]; exact (Ar15).1) (State.isArrayOf_alike hZ.alike (Ar15).2.1) (Ar15).2.2 hin15 hat15 (g := (mkF m 28 #[.val (.ref a0), .val (.ref a1), .val (.ref b3), .val (.int (0 : Int32)), .val (.int ea), .unset, .unset, .unset, .unset, .unset] [(.int ea), (.ref a1)])) rfl rfl (hb hby d6_28) _ ?_
    show own_S p e below T9 (mkF m 29 _ [(.double r0)]) _
    refine XS.dstore X9.here hx rfl (hb hby d6_29) rfl (l' := #[.val (.ref a0), .val (.ref a1), .val (.ref b3), .val (.int (0 : Int32)), .val (.int ea), .val (.double r0), .second, .unset, .unset, .unset]) rfl ?_
    show own_S p e below T9 (mkF m 31 _ []) _
    refine XS.iconst X9.here hx rfl (hb hby d6_31) ?_
    show own_S p e below T9 (mkF m 32 _ [(.int (0 : Int32))]) _
    refine XS.istore X9.here hx rfl (hb hby d6_32) rfl (l' := #[.val (.ref a0), .val (.ref a1), .val (.ref b3), .val (.int (0 : Int32)), .val (.int ea), .val (.double r0), .second, .val (.int (0 : Int32)), .unset, .unset]) rfl ?_
    show own_S p e below T9 (mkF m 34 _ []) _
    refine XS.iload X9.here hx rfl (hb hby d6_34) rfl ?_
    show own_S p e below T9 (mkF m 36 _ [(.int (0 : Int32))]) _
    refine XS.aloadN X9.here hx rfl (hb hby d6_36) rfl rfl ?_
    show own_S p e below T9 (mkF m 37 _ [(.ref a0), (.int (0 : Int32))]) _
    exact kt
  have f17 := (fc_6.ext E3)
  obtain ⟨T18, X18, e18, st18⟩ := getF X9 hx hZ hown (host := "") (Or.inl (hw _ (List.mem_of_getElem? (i := 26) rfl))) Via.refl e9 f17 (g := (mkF m 37 #[.val (.ref a0), .val (.ref a1), .val (.ref b3), .val (.int (0 : Int32)), .val (.int ea), .val (.double r0), .second, .val (.int (0 : Int32)), .unset, .unset] [(.ref a0), (.int (0 : Int32))])) rfl rfl (hb hby d6_37)
  have K18 : own_K p e below G0 T18 (mkF m 40 #[.val (.ref a0), .val (.ref a1), .val (.ref b3), .val (.int (0 : Int32)), .val (.int ea), .val (.double r0), .second, .val (.int (0 : Int32)), .unset, .unset] [(.ref ln), (.int (0 : Int32))]) := fun t kt => K16 t (st18 _ kt)
  have K19 : own_K p e below G0 T18 (mkF m 42 #[.val (.ref a0), .val (.ref a1), .val (.ref b3), .val (.int (0 : Int32)), .val (.int ea), .val (.double r0), .second, .val (.int (0 : Int32)), .unset, .unset] [(.int ea), (.ref ln), (.int (0 : Int32))]) := by
    intro t kt
    refine K18 t ?_
    refine XS.iload X18.here hx rfl (hb hby d6_40) rfl ?_
    show own_S p e below T18 (mkF m 42 _ [(.int ea), (.ref ln), (.int (0 : Int32))]) _
    exact kt
  have f20 := (fc_12.ext E3)
  obtain ⟨cl21, Ar21, qq21, S21, M21, H21, GG21⟩ := id f20
  have hin21 := inb_of S21 (own_in3 hRa)
  have hat21 : cl21.slots[(ea).toNatClampNeg]? = some (.int (0 : Int32)) := Has.at H21 hin21 ((own_g3 hRa).trans hl0)
  have K22 : own_K p e below G0 T18 (mkF m 84 #[.val (.ref a0), .val (.ref a1), .val (.ref b3), .val (.int (0 : Int32)), .val (.int ea), .val (.double r0), .second, .val (.int (0 : Int32)), .unset, .unset] [(.double r0), (.int (0 : Int32)), (.ref b3)]) := by
    intro t kt
    refine K19 t ?_
    refine X18.iaload hx (j := ea) (v := (.int (0 : Int32))) (by rw [e18]; exact (Ar21).1) (State.isArrayOf_alike hZ.alike (Ar21).2.1) (Ar21).2.2 hin21 hat21 (g := (mkF m 42 #[.val (.ref a0), .val (.ref a1), .val (.ref b3), .val (.int (0 : Int32)), .val (.int ea), .val (.double r0), .second, .val (.int (0 : Int32)), .unset, .unset] [(.int ea), (.ref ln), (.int (0 : Int32))])) rfl rfl (hb hby d6_42) _ ?_
    show own_S p e below T18 (mkF m 43 _ [(.int (0 : Int32)), (.int (0 : Int32))]) _
    refine XS.icmpYes X18.here hx rfl (pc0 := 43) (pc' := 80) rfl (hb hby d6_43) rfl (flt (by decide)).2.1 (by decide) (by decide) ?_
    show own_S p e below T18 (mkF m 80 _ []) _
    refine XS.aloadN X18.here hx rfl (hb hby d6_80) rfl rfl ?_
    show own_S p e below T18 (mkF m 81 _ [(.ref b3)]) _
    refine XS.iloadN X18.here hx rfl (hb hby d6_81) rfl ?_
    show own_S p e below T18 (mkF m 82 _ [(.int (0 : Int32)), (.ref b3)]) _
    refine XS.dload X18.here hx rfl (hb hby d6_82) rfl ?_
    show own_S p e below T18 (mkF m 84 _ [(.double r0), (.int (0 : Int32)), (.ref b3)]) _
    exact kt
  obtain ⟨cl23, Ar23, qq23, S23, M23, H23, GG23⟩ := id VL3
  have hin23 : ¬ ((0 : Int32) < 0 ∨ cl23.slots.size ≤ ((0 : Int32)).toNatClampNeg) := inb_of S23 ⟨by decide, by decide⟩
  obtain ⟨T24, h24, X24, e24, W24, st24⟩ := stD X18 hx hZ e18 Ar23 (j := (0 : Int32)) hin23 (g := (mkF m 84 #[.val (.ref a0), .val (.ref a1), .val (.ref b3), .val (.int (0 : Int32)), .val (.int ea), .val (.double r0), .second, .val (.int (0 : Int32)), .unset, .unset] [(.double r0), (.int (0 : Int32)), (.ref b3)])) rfl rfl (hb hby d6_84)
  have K24 : own_K p e below G0 T24 (mkF m 85 #[.val (.ref a0), .val (.ref a1), .val (.ref b3), .val (.int (0 : Int32)), .val (.int ea), .val (.double r0), .second, .val (.int (0 : Int32)), .unset, .unset] []) := fun t kt => K22 t (st24 _ kt)
  have Z24 : n0 ≤ h24.size := Nat.le_trans Z3 (Keep.of_wr W24).1
  have VL24 : Arv Z h24 b3 k3 .double (2 : Int32) [(.double r0), (.double 0)] (.double 0) := Arv.set Ar23 qq23 S23 M23 H23 GG23 rfl W24 0 rfl (Nat.le_of_ble_eq_true rfl)
  have N24 := Fr.snoc X24 N0 gn3
  have K25 : own_K p e below G0 T24 (mkF m 88 #[.val (.ref a0), .val (.ref a1), .val (.ref b3), .val (.int ((0 : Int32) + (1 : Int32))), .val (.int ea), .val (.double r0), .second, .val (.int (0 : Int32)), .unset, .unset] []) := by
    intro t kt
    refine K24 t ?_
    refine XS.iinc X24.here hx rfl (hb hby d6_85) rfl (l' := #[.val (.ref a0), .val (.ref a1), .val (.ref b3), .val (.int ((0 : Int32) + (1 : Int32))), .val (.int ea), .val (.double r0), .second, .val (.int (0 : Int32)), .unset, .unset]) rfl ?_
    show own_S p e below T24 (mkF m 88 _ []) _
    exact kt
  rw [show ((0 : Int32) + (1 : Int32)) = (1 : Int32) from by decide] at K25
  have K26 : own_K p e below G0 T24 (mkF m 11 #[.val (.ref a0), .val (.ref a1), .val (.ref b3), .val (.int (1 : Int32)), .val (.int ea), .val (.double r0), .second, .val (.int (0 : Int32)), .unset, .unset] [(.ref a0), (.int (1 : Int32))]) := by
    intro t kt
    refine K25 t ?_
    refine XS.goto X24.here hx rfl (pc0 := 88) (pc' := 9) rfl (hb hby d6_88) (by decide) (by decide) ?_
    show own_S p e below T24 (mkF m 9 _ []) _
    refine XS.iloadN X24.here hx rfl (hb hby d6_9) rfl ?_
    show own_S p e below T24 (mkF m 10 _ [(.int (1 : Int32))]) _
    refine XS.aloadN X24.here hx rfl (hb hby d6_10) rfl rfl ?_
    show own_S p e below T24 (mkF m 11 _ [(.ref a0), (.int (1 : Int32))]) _
    exact kt
  have f27 := (f5.other W24 (Or.inl ne_a0_b3))
  obtain ⟨T28, X28, e28, st28⟩ := getF X24 hx hZ hown (host := "") (Or.inl (hw _ (List.mem_of_getElem? (i := 43) rfl))) Via.refl e24 f27 (g := (mkF m 11 #[.val (.ref a0), .val (.ref a1), .val (.ref b3), .val (.int (1 : Int32)), .val (.int ea), .val (.double r0), .second, .val (.int (0 : Int32)), .unset, .unset] [(.ref a0), (.int (1 : Int32))])) rfl rfl (hb hby d6_11)
  have K28 : own_K p e below G0 T28 (mkF m 14 #[.val (.ref a0), .val (.ref a1), .val (.ref b3), .val (.int (1 : Int32)), .val (.int ea), .val (.double r0), .second, .val (.int (0 : Int32)), .unset, .unset] [(.int (2 : Int32)), (.int (1 : Int32))]) := fun t kt => K26 t (st28 _ kt)
  have K29 : own_K p e below G0 T28 (mkF m 18 #[.val (.ref a0), .val (.ref a1), .val (.ref b3), .val (.int (1 : Int32)), .val (.int ea), .val (.double r0), .second, .val (.int (0 : Int32)), .unset, .unset] [(.ref a0)]) := by
    intro t kt
    refine K28 t ?_
    refine XS.icmpNo X28.here hx rfl (hb hby d6_14) rfl (tlt (by decide)).2.1 ?_
    show own_S p e below T28 (mkF m 17 _ []) _
    refine XS.aloadN X28.here hx rfl (hb hby d6_17) rfl rfl ?_
    show own_S p e below T28 (mkF m 18 _ [(.ref a0)]) _
    exact kt
  have f30 := (f8.other W24 (Or.inl ne_a0_b3))
  obtain ⟨T31, X31, e31, st31⟩ := getF X28 hx hZ hown (host := "") (Or.inl (hw _ (List.mem_of_getElem? (i := 32) rfl))) Via.refl e28 f30 (g := (mkF m 18 #[.val (.ref a0), .val (.ref a1), .val (.ref b3), .val (.int (1 : Int32)), .val (.int ea), .val (.double r0), .second, .val (.int (0 : Int32)), .unset, .unset] [(.ref a0)])) rfl rfl (hb hby d6_18)
  have K31 : own_K p e below G0 T31 (mkF m 21 #[.val (.ref a0), .val (.ref a1), .val (.ref b3), .val (.int (1 : Int32)), .val (.int ea), .val (.double r0), .second, .val (.int (0 : Int32)), .unset, .unset] [(.ref pe)]) := fun t kt => K29 t (st31 _ kt)
  have K32 : own_K p e below G0 T31 (mkF m 22 #[.val (.ref a0), .val (.ref a1), .val (.ref b3), .val (.int (1 : Int32)), .val (.int ea), .val (.double r0), .second, .val (.int (0 : Int32)), .unset, .unset] [(.int (1 : Int32)), (.ref pe)]) := by
    intro t kt
    refine K31 t ?_
    refine XS.iloadN X31.here hx rfl (hb hby d6_21) rfl ?_
    show own_S p e below T31 (mkF m 22 _ [(.int (1 : Int32)), (.ref pe)]) _
    exact kt
  have f33 := (f11.other W24 ne_pe_b3)
  obtain ⟨cl34, Ar34, qq34, S34, M34, H34, GG34⟩ := id f33
  have hin34 : ¬ ((1 : Int32) < 0 ∨ cl34.slots.size ≤ ((1 : Int32)).toNatClampNeg) := inb_of S34 ⟨by decide, by decide⟩
  have hat34 : cl34.slots[((1 : Int32)).toNatClampNeg]? = some (.int eb) := Has.at H34 hin34 rfl
  have K35 : own_K p e below G0 T31 (mkF m 28 #[.val (.ref a0), .val (.ref a1), .val (.ref b3), .val (.int (1 : Int32)), .val (.int eb), .val (.double r0), .second, .val (.int (0 : Int32)), .unset, .unset] [(.int eb), (.ref a1)]) := by
    intro t kt
    refine K32 t ?_
    refine X31.iaload hx (j := (1 : Int32)) (v := (.int eb)) (by rw [e31]; exact (Ar34).1) (State.isArrayOf_alike hZ.alike (Ar34).2.1) (Ar34).2.2 hin34 hat34 (g := (mkF m 22 #[.val (.ref a0), .val (.ref a1), .val (.ref b3), .val (.int (1 : Int32)), .val (.int ea), .val (.double r0), .second, .val (.int (0 : Int32)), .unset, .unset] [(.int (1 : Int32)), (.ref pe)])) rfl rfl (hb hby d6_22) _ ?_
    show own_S p e below T31 (mkF m 23 _ [(.int eb)]) _
    refine XS.istore X31.here hx rfl (hb hby d6_23) rfl (l' := #[.val (.ref a0), .val (.ref a1), .val (.ref b3), .val (.int (1 : Int32)), .val (.int eb), .val (.double r0), .second, .val (.int (0 : Int32)), .unset, .unset]) rfl ?_
    show own_S p e below T31 (mkF m 25 _ []) _
    refine XS.aloadN X31.here hx rfl (hb hby d6_25) rfl rfl ?_
    show own_S p e below T31 (mkF m 26 _ [(.ref a1)]) _
    refine XS.iload X31.here hx rfl (hb hby d6_26) rfl ?_
    show own_S p e below T31 (mkF m 28 _ [(.int eb), (.ref a1)]) _
    exact kt
  have f36 := (f14.other W24 ne_a1_b3)
  obtain ⟨cl37, Ar37, qq37, S37, M37, H37, GG37⟩ := id f36
  have hin37 := inb_of S37 (own_in3 hRb)
  have hat37 : cl37.slots[(eb).toNatClampNeg]? = some (.double r1) := Has.at H37 hin37 ((own_g3 hRb).trans hq1)
  have K38 : own_K p e below G0 T31 (mkF m 37 #[.val (.ref a0), .val (.ref a1), .val (.ref b3), .val (.int (1 : Int32)), .val (.int eb), .val (.double r1), .second, .val (.int (0 : Int32)), .unset, .unset] [(.ref a0), (.int (0 : Int32))]) := by
    intro t kt
    refine K35 t ?_
    refine X31.daload hx (j := eb) (v := (.double r1)) (by rw [e31]; exact (Ar37).1) (State.isArrayOf_alike hZ.alike (Ar37).2.1) (Ar37).2.2 hin37 hat37 (g := (mkF m 28 #[.val (.ref a0), .val (.ref a1), .val (.ref b3), .val (.int (1 : Int32)), .val (.int eb), .val (.double r0), .second, .val (.int (0 : Int32)), .unset, .unset] [(.int eb), (.ref a1)])) rfl rfl (hb hby d6_28) _ ?_
    show own_S p e below T31 (mkF m 29 _ [(.double r1)]) _
    refine XS.dstore X31.here hx rfl (hb hby d6_29) rfl (l' := #[.val (.ref a0), .val (.ref a1), .val (.ref b3), .val (.int (1 : Int32)), .val (.int eb), .val (.double r1), .second, .val (.int (0 : Int32)), .unset, .unset]) rfl ?_
    show own_S p e below T31 (mkF m 31 _ []) _
    refine XS.iconst X31.here hx rfl (hb hby d6_31) ?_
    show own_S p e below T31 (mkF m 32 _ [(.int (0 : Int32))]) _
    refine XS.istore X31.here hx rfl (hb hby d6_32) rfl (l' := #[.val (.ref a0), .val (.ref a1), .val (.ref b3), .val (.int (1 : Int32)), .val (.int eb), .val (.double r1), .second, .val (.int (0 : Int32)), .unset, .unset]) rfl ?_
    show own_S p e below T31 (mkF m 34 _ []) _
    refine XS.iload X31.here hx rfl (hb hby d6_34) rfl ?_
    show own_S p e below T31 (mkF m 36 _ [(.int (0 : Int32))]) _
    refine XS.aloadN X31.here hx rfl (hb hby d6_36) rfl rfl ?_
    show own_S p e below T31 (mkF m 37 _ [(.ref a0), (.int (0 : Int32))]) _
    exact kt
  have f39 := (f17.other W24 (Or.inl ne_a0_b3))
  obtain ⟨T40, X40, e40, st40⟩ := getF X31 hx hZ hown (host := "") (Or.inl (hw _ (List.mem_of_getElem? (i := 26) rfl))) Via.refl e31 f39 (g := (mkF m 37 #[.val (.ref a0), .val (.ref a1), .val (.ref b3), .val (.int (1 : Int32)), .val (.int eb), .val (.double r1), .second, .val (.int (0 : Int32)), .unset, .unset] [(.ref a0), (.int (0 : Int32))])) rfl rfl (hb hby d6_37)
  have K40 : own_K p e below G0 T40 (mkF m 40 #[.val (.ref a0), .val (.ref a1), .val (.ref b3), .val (.int (1 : Int32)), .val (.int eb), .val (.double r1), .second, .val (.int (0 : Int32)), .unset, .unset] [(.ref ln), (.int (0 : Int32))]) := fun t kt => K38 t (st40 _ kt)
  have K41 : own_K p e below G0 T40 (mkF m 42 #[.val (.ref a0), .val (.ref a1), .val (.ref b3), .val (.int (1 : Int32)), .val (.int eb), .val (.double r1), .second, .val (.int (0 : Int32)), .unset, .unset] [(.int eb), (.ref ln), (.int (0 : Int32))]) := by
    intro t kt
    refine K40 t ?_
    refine XS.iload X40.here hx rfl (hb hby d6_40) rfl ?_
    show own_S p e below T40 (mkF m 42 _ [(.int eb), (.ref ln), (.int (0 : Int32))]) _
    exact kt
  have f42 := (f20.other W24 ne_ln_b3)
  obtain ⟨cl43, Ar43, qq43, S43, M43, H43, GG43⟩ := id f42
  have hin43 := inb_of S43 (own_in3 hRb)
  have hat43 : cl43.slots[(eb).toNatClampNeg]? = some (.int (1 : Int32)) := Has.at H43 hin43 ((own_g3 hRb).trans hl1)
  have K44 : own_K p e below G0 T40 (mkF m 49 #[.val (.ref a0), .val (.ref a1), .val (.ref b3), .val (.int (1 : Int32)), .val (.int eb), .val (.double r1), .second, .val (.int (0 : Int32)), .unset, .unset] [(.ref a0), (.double r1)]) := by
    intro t kt
    refine K41 t ?_
    refine X40.iaload hx (j := eb) (v := (.int (1 : Int32))) (by rw [e40]; exact (Ar43).1) (State.isArrayOf_alike hZ.alike (Ar43).2.1) (Ar43).2.2 hin43 hat43 (g := (mkF m 42 #[.val (.ref a0), .val (.ref a1), .val (.ref b3), .val (.int (1 : Int32)), .val (.int eb), .val (.double r1), .second, .val (.int (0 : Int32)), .unset, .unset] [(.int eb), (.ref ln), (.int (0 : Int32))])) rfl rfl (hb hby d6_42) _ ?_
    show own_S p e below T40 (mkF m 43 _ [(.int (1 : Int32)), (.int (0 : Int32))]) _
    refine XS.icmpNo X40.here hx rfl (hb hby d6_43) rfl (tlt (by decide)).2.1 ?_
    show own_S p e below T40 (mkF m 46 _ []) _
    refine XS.dload X40.here hx rfl (hb hby d6_46) rfl ?_
    show own_S p e below T40 (mkF m 48 _ [(.double r1)]) _
    refine XS.aloadN X40.here hx rfl (hb hby d6_48) rfl rfl ?_
    show own_S p e below T40 (mkF m 49 _ [(.ref a0), (.double r1)]) _
    exact kt
  have f45 := ((fc_5.ext E3).other W24 (Or.inl ne_a0_b3))
  obtain ⟨T46, X46, e46, st46⟩ := getF X40 hx hZ hown (host := "") (Or.inl (hw _ (List.mem_of_getElem? (i := 24) rfl))) Via.refl e40 f45 (g := (mkF m 49 #[.val (.ref a0), .val (.ref a1), .val (.ref b3), .val (.int (1 : Int32)), .val (.int eb), .val (.double r1), .second, .val (.int (0 : Int32)), .unset, .unset] [(.ref a0), (.double r1)])) rfl rfl (hb hby d6_49)
  have K46 : own_K p e below G0 T46 (mkF m 52 #[.val (.ref a0), .val (.ref a1), .val (.ref b3), .val (.int (1 : Int32)), .val (.int eb), .val (.double r1), .second, .val (.int (0 : Int32)), .unset, .unset] [(.ref ml), (.double r1)]) := fun t kt => K44 t (st46 _ kt)
  have K47 : own_K p e below G0 T46 (mkF m 54 #[.val (.ref a0), .val (.ref a1), .val (.ref b3), .val (.int (1 : Int32)), .val (.int eb), .val (.double r1), .second, .val (.int (0 : Int32)), .unset, .unset] [(.int eb), (.ref ml), (.double r1)]) := by
    intro t kt
    refine K46 t ?_
    refine XS.iload X46.here hx rfl (hb hby d6_52) rfl ?_
    show own_S p e below T46 (mkF m 54 _ [(.int eb), (.ref ml), (.double r1)]) _
    exact kt
  have f48 := ((fc_11.ext E3).other W24 ne_ml_b3)
  obtain ⟨cl49, Ar49, qq49, S49, M49, H49, GG49⟩ := id f48
  have hin49 := inb_of S49 (own_in3 hRb)
  have hat49 : cl49.slots[(eb).toNatClampNeg]? = some (.ref q2) := Has.at H49 hin49 ((own_g3 hRb).trans hfm)
  have K50 : own_K p e below G0 T46 (mkF m 57 #[.val (.ref a0), .val (.ref a1), .val (.ref b3), .val (.int (1 : Int32)), .val (.int eb), .val (.double r1), .second, .val (.int (0 : Int32)), .unset, .unset] [(.int (0 : Int32)), (.ref q2), (.double r1)]) := by
    intro t kt
    refine K47 t ?_
    refine X46.aaload hx (j := eb) (v := (.ref q2)) (by rw [e46]; exact (Ar49).1) (State.isArrayOf_alike hZ.alike (Ar49).2.1) rfl (Ar49).2.2 hin49 hat49 (g := (mkF m 54 #[.val (.ref a0), .val (.ref a1), .val (.ref b3), .val (.int (1 : Int32)), .val (.int eb), .val (.double r1), .second, .val (.int (0 : Int32)), .unset, .unset] [(.int eb), (.ref ml), (.double r1)])) rfl rfl (hb hby d6_54) _ ?_
    show own_S p e below T46 (mkF m 55 _ [(.ref q2), (.double r1)]) _
    refine XS.iload X46.here hx rfl (hb hby d6_55) rfl ?_
    show own_S p e below T46 (mkF m 57 _ [(.int (0 : Int32)), (.ref q2), (.double r1)]) _
    exact kt
  have f51 := ((V_q2.ext E3).other W24 ne_q2_b3)
  obtain ⟨cl52, Ar52, qq52, S52, M52, H52, GG52⟩ := id f51
  have hin52 : ¬ ((0 : Int32) < 0 ∨ cl52.slots.size ≤ ((0 : Int32)).toNatClampNeg) := inb_of S52 ⟨by decide, by decide⟩
  have hat52 : cl52.slots[((0 : Int32)).toNatClampNeg]? = some (.double dm) := Has.at H52 hin52 rfl
  have K53 : own_K p e below G0 T46 (mkF m 60 #[.val (.ref a0), .val (.ref a1), .val (.ref b3), .val (.int (1 : Int32)), .val (.int eb), .val (.double r1), .second, .val (.int (0 : Int32)), .unset, .unset] [(.ref a0), (.ref b3), (.double dm), (.double r1)]) := by
    intro t kt
    refine K50 t ?_
    refine X46.daload hx (j := (0 : Int32)) (v := (.double dm)) (by rw [e46]; exact (Ar52).1) (State.isArrayOf_alike hZ.alike (Ar52).2.1) (Ar52).2.2 hin52 hat52 (g := (mkF m 57 #[.val (.ref a0), .val (.ref a1), .val (.ref b3), .val (.int (1 : Int32)), .val (.int eb), .val (.double r1), .second, .val (.int (0 : Int32)), .unset, .unset] [(.int (0 : Int32)), (.ref q2), (.double r1)])) rfl rfl (hb hby d6_57) _ ?_
    show own_S p e below T46 (mkF m 58 _ [(.double dm), (.double r1)]) _
    refine XS.aloadN X46.here hx rfl (hb hby d6_58) rfl rfl ?_
    show own_S p e below T46 (mkF m 59 _ [(.ref b3), (.double dm), (.double r1)]) _
    refine XS.aloadN X46.here hx rfl (hb hby d6_59) rfl rfl ?_
    show own_S p e below T46 (mkF m 60 _ [(.ref a0), (.ref b3), (.double dm), (.double r1)]) _
    exact kt
  have f54 := ((fc_4.ext E3).other W24 (Or.inl ne_a0_b3))
  obtain ⟨T55, X55, e55, st55⟩ := getF X46 hx hZ hown (host := "") (Or.inl (hw _ (List.mem_of_getElem? (i := 20) rfl))) Via.refl e46 f54 (g := (mkF m 60 #[.val (.ref a0), .val (.ref a1), .val (.ref b3), .val (.int (1 : Int32)), .val (.int eb), .val (.double r1), .second, .val (.int (0 : Int32)), .unset, .unset] [(.ref a0), (.ref b3), (.double dm), (.double r1)])) rfl rfl (hb hby d6_60)
  have K55 : own_K p e below G0 T55 (mkF m 63 #[.val (.ref a0), .val (.ref a1), .val (.ref b3), .val (.int (1 : Int32)), .val (.int eb), .val (.double r1), .second, .val (.int (0 : Int32)), .unset, .unset] [(.ref rb), (.ref b3), (.double dm), (.double r1)]) := fun t kt => K53 t (st55 _ kt)
  have K56 : own_K p e below G0 T55 (mkF m 65 #[.val (.ref a0), .val (.ref a1), .val (.ref b3), .val (.int (1 : Int32)), .val (.int eb), .val (.double r1), .second, .val (.int (0 : Int32)), .unset, .unset] [(.int eb), (.ref rb), (.ref b3), (.double dm), (.double r1)]) := by
    intro t kt
    refine K55 t ?_
    refine XS.iload X55.here hx rfl (hb hby d6_63) rfl ?_
    show own_S p e below T55 (mkF m 65 _ [(.int eb), (.ref rb), (.ref b3), (.double dm), (.double r1)]) _
    exact kt
  have f57 := ((fc_10.ext E3).other W24 ne_rb_b3)
  obtain ⟨cl58, Ar58, qq58, S58, M58, H58, GG58⟩ := id f57
  have hin58 := inb_of S58 (own_in3 hRb)
  have hat58 : cl58.slots[(eb).toNatClampNeg]? = some (.ref q1) := Has.at H58 hin58 ((own_g3 hRb).trans hfr)
  have K59 : own_K p e below G0 T55 (mkF m 68 #[.val (.ref a0), .val (.ref a1), .val (.ref b3), .val (.int (1 : Int32)), .val (.int eb), .val (.double r1), .second, .val (.int (0 : Int32)), .unset, .unset] [(.int (0 : Int32)), (.ref q1), (.ref b3), (.double dm), (.double r1)]) := by
    intro t kt
    refine K56 t ?_
    refine X55.aaload hx (j := eb) (v := (.ref q1)) (by rw [e55]; exact (Ar58).1) (State.isArrayOf_alike hZ.alike (Ar58).2.1) rfl (Ar58).2.2 hin58 hat58 (g := (mkF m 65 #[.val (.ref a0), .val (.ref a1), .val (.ref b3), .val (.int (1 : Int32)), .val (.int eb), .val (.double r1), .second, .val (.int (0 : Int32)), .unset, .unset] [(.int eb), (.ref rb), (.ref b3), (.double dm), (.double r1)])) rfl rfl (hb hby d6_65) _ ?_
    show own_S p e below T55 (mkF m 66 _ [(.ref q1), (.ref b3), (.double dm), (.double r1)]) _
    refine XS.iload X55.here hx rfl (hb hby d6_66) rfl ?_
    show own_S p e below T55 (mkF m 68 _ [(.int (0 : Int32)), (.ref q1), (.ref b3), (.double dm), (.double r1)]) _
    exact kt
  have f60 := ((V_q1.ext E3).other W24 ne_q1_b3)
  obtain ⟨cl61, Ar61, qq61, S61, M61, H61, GG61⟩ := id f60
  have hin61 : ¬ ((0 : Int32) < 0 ∨ cl61.slots.size ≤ ((0 : Int32)).toNatClampNeg) := inb_of S61 ⟨by decide, by decide⟩
  have hat61 : cl61.slots[((0 : Int32)).toNatClampNeg]? = some (.int (0 : Int32)) := Has.at H61 hin61 rfl
  have K62 : own_K p e below G0 T55 (mkF m 69 #[.val (.ref a0), .val (.ref a1), .val (.ref b3), .val (.int (1 : Int32)), .val (.int eb), .val (.double r1), .second, .val (.int (0 : Int32)), .unset, .unset] [(.int (0 : Int32)), (.ref b3), (.double dm), (.double r1)]) := by
    intro t kt
    refine K59 t ?_
    refine X55.iaload hx (j := (0 : Int32)) (v := (.int (0 : Int32))) (by rw [e55]; exact (Ar61).1) (State.isArrayOf_alike hZ.alike (Ar61).2.1) (Ar61).2.2 hin61 hat61 (g := (mkF m 68 #[.val (.ref a0), .val (.ref a1), .val (.ref b3), .val (.int (1 : Int32)), .val (.int eb), .val (.double r1), .second, .val (.int (0 : Int32)), .unset, .unset] [(.int (0 : Int32)), (.ref q1), (.ref b3), (.double dm), (.double r1)])) rfl rfl (hb hby d6_68) _ ?_
    show own_S p e below T55 (mkF m 69 _ [(.int (0 : Int32)), (.ref b3), (.double dm), (.double r1)]) _
    exact kt
  obtain ⟨cl63, Ar63, qq63, S63, M63, H63, GG63⟩ := id VL24
  have hin63 : ¬ ((0 : Int32) < 0 ∨ cl63.slots.size ≤ ((0 : Int32)).toNatClampNeg) := inb_of S63 ⟨by decide, by decide⟩
  have hat63 : cl63.slots[((0 : Int32)).toNatClampNeg]? = some (.double r0) := Has.at H63 hin63 rfl
  have K64 : own_K p e below G0 T55 (mkF m 77 #[.val (.ref a0), .val (.ref a1), .val (.ref b3), .val (.int (1 : Int32)), .val (.int eb), .val (.double (FP.dsub r1 (FP.dmul dm r0))), .second, .val (.int ((0 : Int32) + (1 : Int32))), .unset, .unset] []) := by
    intro t kt
    refine K62 t ?_
    refine X55.daload hx (j := (0 : Int32)) (v := (.double r0)) (by rw [e55]; exact (Ar63).1) (State.isArrayOf_alike hZ.alike (Ar63).2.1) (Ar63).2.2 hin63 hat63 (g := (mkF m 69 #[.val (.ref a0), .val (.ref a1), .val (.ref b3), .val (.int (1 : Int32)), .val (.int eb), .val (.double r1), .second, .val (.int (0 : Int32)), .unset, .unset] [(.int (0 : Int32)), (.ref b3), (.double dm), (.double r1)])) rfl rfl (hb hby d6_69) _ ?_
    show own_S p e below T55 (mkF m 70 _ [(.double r0), (.double dm), (.double r1)]) _
    refine XS.dmulS X55.here hx rfl (hb hby d6_70) rfl (own_V_nonan qa) rfl ?_
    show own_S p e below T55 (mkF m 71 _ [(.double (FP.dmul dm r0)), (.double r1)]) _
    refine XS.dsubS X55.here hx rfl (hb hby d6_71) rfl (own_V_nonan qb) rfl ?_
    show own_S p e below T55 (mkF m 72 _ [(.double (FP.dsub r1 (FP.dmul dm r0)))]) _
    refine XS.dstore X55.here hx rfl (hb hby d6_72) rfl (l' := #[.val (.ref a0), .val (.ref a1), .val (.ref b3), .val (.int (1 : Int32)), .val (.int eb), .val (.double (FP.dsub r1 (FP.dmul dm r0))), .second, .val (.int (0 : Int32)), .unset, .unset]) rfl ?_
    show own_S p e below T55 (mkF m 74 _ []) _
    refine XS.iinc X55.here hx rfl (hb hby d6_74) rfl (l' := #[.val (.ref a0), .val (.ref a1), .val (.ref b3), .val (.int (1 : Int32)), .val (.int eb), .val (.double (FP.dsub r1 (FP.dmul dm r0))), .second, .val (.int ((0 : Int32) + (1 : Int32))), .unset, .unset]) rfl ?_
    show own_S p e below T55 (mkF m 77 _ []) _
    exact kt
  rw [show ((0 : Int32) + (1 : Int32)) = (1 : Int32) from by decide] at K64
  have K65 : own_K p e below G0 T55 (mkF m 37 #[.val (.ref a0), .val (.ref a1), .val (.ref b3), .val (.int (1 : Int32)), .val (.int eb), .val (.double (FP.dsub r1 (FP.dmul dm r0))), .second, .val (.int (1 : Int32)), .unset, .unset] [(.ref a0), (.int (1 : Int32))]) := by
    intro t kt
    refine K64 t ?_
    refine XS.goto X55.here hx rfl (pc0 := 77) (pc' := 34) rfl (hb hby d6_77) (by decide) (by decide) ?_
    show own_S p e below T55 (mkF m 34 _ []) _
    refine XS.iload X55.here hx rfl (hb hby d6_34) rfl ?_
    show own_S p e below T55 (mkF m 36 _ [(.int (1 : Int32))]) _
    refine XS.aloadN X55.here hx rfl (hb hby d6_36) rfl rfl ?_
    show own_S p e below T55 (mkF m 37 _ [(.ref a0), (.int (1 : Int32))]) _
    exact kt
  obtain ⟨T66, X66, e66, st66⟩ := getF X55 hx hZ hown (host := "") (Or.inl (hw _ (List.mem_of_getElem? (i := 26) rfl))) Via.refl e55 f39 (g := (mkF m 37 #[.val (.ref a0), .val (.ref a1), .val (.ref b3), .val (.int (1 : Int32)), .val (.int eb), .val (.double (FP.dsub r1 (FP.dmul dm r0))), .second, .val (.int (1 : Int32)), .unset, .unset] [(.ref a0), (.int (1 : Int32))])) rfl rfl (hb hby d6_37)
  have K66 : own_K p e below G0 T66 (mkF m 40 #[.val (.ref a0), .val (.ref a1), .val (.ref b3), .val (.int (1 : Int32)), .val (.int eb), .val (.double (FP.dsub r1 (FP.dmul dm r0))), .second, .val (.int (1 : Int32)), .unset, .unset] [(.ref ln), (.int (1 : Int32))]) := fun t kt => K65 t (st66 _ kt)
  have K67 : own_K p e below G0 T66 (mkF m 42 #[.val (.ref a0), .val (.ref a1), .val (.ref b3), .val (.int (1 : Int32)), .val (.int eb), .val (.double (FP.dsub r1 (FP.dmul dm r0))), .second, .val (.int (1 : Int32)), .unset, .unset] [(.int eb), (.ref ln), (.int (1 : Int32))]) := by
    intro t kt
    refine K66 t ?_
    refine XS.iload X66.here hx rfl (hb hby d6_40) rfl ?_
    show own_S p e below T66 (mkF m 42 _ [(.int eb), (.ref ln), (.int (1 : Int32))]) _
    exact kt
  obtain ⟨cl68, Ar68, qq68, S68, M68, H68, GG68⟩ := id f42
  have hin68 := inb_of S68 (own_in3 hRb)
  have hat68 : cl68.slots[(eb).toNatClampNeg]? = some (.int (1 : Int32)) := Has.at H68 hin68 ((own_g3 hRb).trans hl1)
  have K69 : own_K p e below G0 T66 (mkF m 84 #[.val (.ref a0), .val (.ref a1), .val (.ref b3), .val (.int (1 : Int32)), .val (.int eb), .val (.double (FP.dsub r1 (FP.dmul dm r0))), .second, .val (.int (1 : Int32)), .unset, .unset] [(.double (FP.dsub r1 (FP.dmul dm r0))), (.int (1 : Int32)), (.ref b3)]) := by
    intro t kt
    refine K67 t ?_
    refine X66.iaload hx (j := eb) (v := (.int (1 : Int32))) (by rw [e66]; exact (Ar68).1) (State.isArrayOf_alike hZ.alike (Ar68).2.1) (Ar68).2.2 hin68 hat68 (g := (mkF m 42 #[.val (.ref a0), .val (.ref a1), .val (.ref b3), .val (.int (1 : Int32)), .val (.int eb), .val (.double (FP.dsub r1 (FP.dmul dm r0))), .second, .val (.int (1 : Int32)), .unset, .unset] [(.int eb), (.ref ln), (.int (1 : Int32))])) rfl rfl (hb hby d6_42) _ ?_
    show own_S p e below T66 (mkF m 43 _ [(.int (1 : Int32)), (.int (1 : Int32))]) _
    refine XS.icmpYes X66.here hx rfl (pc0 := 43) (pc' := 80) rfl (hb hby d6_43) rfl (flt (by decide)).2.1 (by decide) (by decide) ?_
    show own_S p e below T66 (mkF m 80 _ []) _
    refine XS.aloadN X66.here hx rfl (hb hby d6_80) rfl rfl ?_
    show own_S p e below T66 (mkF m 81 _ [(.ref b3)]) _
    refine XS.iloadN X66.here hx rfl (hb hby d6_81) rfl ?_
    show own_S p e below T66 (mkF m 82 _ [(.int (1 : Int32)), (.ref b3)]) _
    refine XS.dload X66.here hx rfl (hb hby d6_82) rfl ?_
    show own_S p e below T66 (mkF m 84 _ [(.double (FP.dsub r1 (FP.dmul dm r0))), (.int (1 : Int32)), (.ref b3)]) _
    exact kt
  obtain ⟨cl70, Ar70, qq70, S70, M70, H70, GG70⟩ := id VL24
  have hin70 : ¬ ((1 : Int32) < 0 ∨ cl70.slots.size ≤ ((1 : Int32)).toNatClampNeg) := inb_of S70 ⟨by decide, by decide⟩
  obtain ⟨T71, h71, X71, e71, W71, st71⟩ := stD X66 hx hZ e66 Ar70 (j := (1 : Int32)) hin70 (g := (mkF m 84 #[.val (.ref a0), .val (.ref a1), .val (.ref b3), .val (.int (1 : Int32)), .val (.int eb), .val (.double (FP.dsub r1 (FP.dmul dm r0))), .second, .val (.int (1 : Int32)), .unset, .unset] [(.double (FP.dsub r1 (FP.dmul dm r0))), (.int (1 : Int32)), (.ref b3)])) rfl rfl (hb hby d6_84)
  have K71 : own_K p e below G0 T71 (mkF m 85 #[.val (.ref a0), .val (.ref a1), .val (.ref b3), .val (.int (1 : Int32)), .val (.int eb), .val (.double (FP.dsub r1 (FP.dmul dm r0))), .second, .val (.int (1 : Int32)), .unset, .unset] []) := fun t kt => K69 t (st71 _ kt)
  have Z71 : n0 ≤ h71.size := Nat.le_trans Z24 (Keep.of_wr W71).1
  have VL71 : Arv Z h71 b3 k3 .double (2 : Int32) [(.double r0), (.double (FP.dsub r1 (FP.dmul dm r0)))] (.double 0) := Arv.set Ar70 qq70 S70 M70 H70 GG70 rfl W71 1 rfl (Nat.le_of_ble_eq_true rfl)
  have N71 := Fr.snoc X71 N24 gn3
  have K72 : own_K p e below G0 T71 (mkF m 88 #[.val (.ref a0), .val (.ref a1), .val (.ref b3), .val (.int ((1 : Int32) + (1 : Int32))), .val (.int eb), .val (.double (FP.dsub r1 (FP.dmul dm r0))), .second, .val (.int (1 : Int32)), .unset, .unset] []) := by
    intro t kt
    refine K71 t ?_
    refine XS.iinc X71.here hx rfl (hb hby d6_85) rfl (l' := #[.val (.ref a0), .val (.ref a1), .val (.ref b3), .val (.int ((1 : Int32) + (1 : Int32))), .val (.int eb), .val (.double (FP.dsub r1 (FP.dmul dm r0))), .second, .val (.int (1 : Int32)), .unset, .unset]) rfl ?_
    show own_S p e below T71 (mkF m 88 _ []) _
    exact kt
  rw [show ((1 : Int32) + (1 : Int32)) = (2 : Int32) from by decide] at K72
  have K73 : own_K p e below G0 T71 (mkF m 11 #[.val (.ref a0), .val (.ref a1), .val (.ref b3), .val (.int (2 : Int32)), .val (.int eb), .val (.double (FP.dsub r1 (FP.dmul dm r0))), .second, .val (.int (1 : Int32)), .unset, .unset] [(.ref a0), (.int (2 : Int32))]) := by
    intro t kt
    refine K72 t ?_
    refine XS.goto X71.here hx rfl (pc0 := 88) (pc' := 9) rfl (hb hby d6_88) (by decide) (by decide) ?_
    show own_S p e below T71 (mkF m 9 _ []) _
    refine XS.iloadN X71.here hx rfl (hb hby d6_9) rfl ?_
    show own_S p e below T71 (mkF m 10 _ [(.int (2 : Int32))]) _
    refine XS.aloadN X71.here hx rfl (hb hby d6_10) rfl rfl ?_
    show own_S p e below T71 (mkF m 11 _ [(.ref a0), (.int (2 : Int32))]) _
    exact kt
  have f74 := (f27.other W71 (Or.inl ne_a0_b3))
  obtain ⟨T75, X75, e75, st75⟩ := getF X71 hx hZ hown (host := "") (Or.inl (hw _ (List.mem_of_getElem? (i := 43) rfl))) Via.refl e71 f74 (g := (mkF m 11 #[.val (.ref a0), .val (.ref a1), .val (.ref b3), .val (.int (2 : Int32)), .val (.int eb), .val (.double (FP.dsub r1 (FP.dmul dm r0))), .second, .val (.int (1 : Int32)), .unset, .unset] [(.ref a0), (.int (2 : Int32))])) rfl rfl (hb hby d6_11)
  have K75 : own_K p e below G0 T75 (mkF m 14 #[.val (.ref a0), .val (.ref a1), .val (.ref b3), .val (.int (2 : Int32)), .val (.int eb), .val (.double (FP.dsub r1 (FP.dmul dm r0))), .second, .val (.int (1 : Int32)), .unset, .unset] [(.int (2 : Int32)), (.int (2 : Int32))]) := fun t kt => K73 t (st75 _ kt)
  have K76 : own_K p e below G0 T75 (mkF m 92 #[.val (.ref a0), .val (.ref a1), .val (.ref b3), .val (.int (2 : Int32)), .val (.int eb), .val (.double (FP.dsub r1 (FP.dmul dm r0))), .second, .val (.int (1 : Int32)), .unset, .unset] [(.ref a0)]) := by
    intro t kt
    refine K75 t ?_
    refine XS.icmpYes X75.here hx rfl (pc0 := 14) (pc' := 91) rfl (hb hby d6_14) rfl (flt (by decide)).2.1 (by decide) (by decide) ?_
    show own_S p e below T75 (mkF m 91 _ []) _
    refine XS.aloadN X75.here hx rfl (hb hby d6_91) rfl rfl ?_
    show own_S p e below T75 (mkF m 92 _ [(.ref a0)]) _
    exact kt
  have f77 := (((fc_1.ext E3).other W24 (Or.inl ne_a0_b3)).other W71 (Or.inl ne_a0_b3))
  obtain ⟨T78, X78, e78, st78⟩ := getF X75 hx hZ hown (host := "") (Or.inl (hw _ (List.mem_of_getElem? (i := 14) rfl))) Via.refl e75 f77 (g := (mkF m 92 #[.val (.ref a0), .val (.ref a1), .val (.ref b3), .val (.int (2 : Int32)), .val (.int eb), .val (.double (FP.dsub r1 (FP.dmul dm r0))), .second, .val (.int (1 : Int32)), .unset, .unset] [(.ref a0)])) rfl rfl (hb hby d6_92)
  have K78 : own_K p e below G0 T78 (mkF m 95 #[.val (.ref a0), .val (.ref a1), .val (.ref b3), .val (.int (2 : Int32)), .val (.int eb), .val (.double (FP.dsub r1 (FP.dmul dm r0))), .second, .val (.int (1 : Int32)), .unset, .unset] [(.int (3 : Int32))]) := fun t kt => K76 t (st78 _ kt)
  have f79 := (((fc_0.ext E3).wr W24).wr W71)
  have f80 := (f57.other W71 ne_rb_b3)
  have f81 := (f48.other W71 ne_ml_b3)
  have f82 := (f42.other W71 ne_ln_b3)
  have f83 := (f33.other W71 ne_pe_b3)
  have f84 := (((fc_14.ext E3).other W24 ne_pu_b3).other W71 ne_pu_b3)
  have f85 := (((fc_15.ext E3).other W24 ne_pc_b3).other W71 ne_pc_b3)
  have f86 := (f36.other W71 ne_a1_b3)
  have f87 := (((V_ra.ext E3).other W24 ne_ra_b3).other W71 ne_ra_b3)
  have f88 := (((V_ca.ext E3).other W24 ne_ca_b3).other W71 ne_ca_b3)
  have f89 := (((V_rc.ext E3).other W24 ne_rc_b3).other W71 ne_rc_b3)
  have f90 := (((V_cc.ext E3).other W24 ne_cc_b3).other W71 ne_cc_b3)
  have f91 := (f60.other W71 ne_q1_b3)
  have f92 := (f51.other W71 ne_q2_b3)
  obtain ⟨T93, h93, k93, X93, e93, E93, A93, st93⟩ := newP X78 hx hZ (hw _ (List.mem_of_getElem? (i := 4) rfl)) e78 (g := (mkF m 95 #[.val (.ref a0), .val (.ref a1), .val (.ref b3), .val (.int (2 : Int32)), .val (.int eb), .val (.double (FP.dsub r1 (FP.dmul dm r0))), .second, .val (.int (1 : Int32)), .unset, .unset] [(.int (3 : Int32))])) rfl (hb hby d6_95) rfl (by decide) (cap := 3) (by decide) (by decide) (by decide) (by decide)
  obtain ⟨b93, g93⟩ : ∃ z, z = h71.size := ⟨_, rfl⟩
  rw [← g93] at A93 st93
  have V93 := Arv.new A93 (by decide)
  have gn93 : n0 ≤ b93 := Nat.le_trans Z71 (Nat.le_of_eq g93.symm)
  have Z93 : n0 ≤ h93.size := Nat.le_trans Z71 E93.1
  have K93 : own_K p e below G0 T93 (mkF m 97 #[.val (.ref a0), .val (.ref a1), .val (.ref b3), .val (.int (2 : Int32)), .val (.int eb), .val (.double (FP.dsub r1 (FP.dmul dm r0))), .second, .val (.int (1 : Int32)), .unset, .unset] [(.ref b93)]) := fun t kt => K78 t (st93 _ kt)
  have ne_a0_b93 : a0 ≠ b93 := Nat.ne_of_lt (Nat.lt_of_lt_of_le (f79).lt (Nat.le_of_eq g93.symm))
  have ne_rb_b93 : rb ≠ b93 := Nat.ne_of_lt (Nat.lt_of_lt_of_le (f80).lt (Nat.le_of_eq g93.symm))
  have ne_ml_b93 : ml ≠ b93 := Nat.ne_of_lt (Nat.lt_of_lt_of_le (f81).lt (Nat.le_of_eq g93.symm))
  have ne_ln_b93 : ln ≠ b93 := Nat.ne_of_lt (Nat.lt_of_lt_of_le (f82).lt (Nat.le_of_eq g93.symm))
  have ne_pe_b93 : pe ≠ b93 := Nat.ne_of_lt (Nat.lt_of_lt_of_le (f83).lt (Nat.le_of_eq g93.symm))
  have ne_pu_b93 : pu ≠ b93 := Nat.ne_of_lt (Nat.lt_of_lt_of_le (f84).lt (Nat.le_of_eq g93.symm))
  have ne_pc_b93 : pc ≠ b93 := Nat.ne_of_lt (Nat.lt_of_lt_of_le (f85).lt (Nat.le_of_eq g93.symm))
  have ne_a1_b93 : a1 ≠ b93 := Nat.ne_of_lt (Nat.lt_of_lt_of_le (f86).lt (Nat.le_of_eq g93.symm))
  have ne_ra_b93 : ra ≠ b93 := Nat.ne_of_lt (Nat.lt_of_lt_of_le (f87).lt (Nat.le_of_eq g93.symm))
  have ne_ca_b93 : ca ≠ b93 := Nat.ne_of_lt (Nat.lt_of_lt_of_le (f88).lt (Nat.le_of_eq g93.symm))
  have ne_rc_b93 : rc ≠ b93 := Nat.ne_of_lt (Nat.lt_of_lt_of_le (f89).lt (Nat.le_of_eq g93.symm))
  have ne_cc_b93 : cc ≠ b93 := Nat.ne_of_lt (Nat.lt_of_lt_of_le (f90).lt (Nat.le_of_eq g93.symm))
  have ne_q1_b93 : q1 ≠ b93 := Nat.ne_of_lt (Nat.lt_of_lt_of_le (f91).lt (Nat.le_of_eq g93.symm))
  have ne_q2_b93 : q2 ≠ b93 := Nat.ne_of_lt (Nat.lt_of_lt_of_le (f92).lt (Nat.le_of_eq g93.symm))
  have ne_b3_b93 : b3 ≠ b93 := Nat.ne_of_lt (Nat.lt_of_lt_of_le (VL71).lt (Nat.le_of_eq g93.symm))
  have VL93 : Arv Z h93 b93 k93 .double (3 : Int32) [(.double 0), (.double 0), (.double 0)] (.double 0) := V93.pad (pad_rep [] (.double 0) 3)
  have VSb93 : Arv Z h93 b93 k93 .double (3 : Int32) (own_l3 (fun _ => (.double 0))) (.double 0) := VL93
  have K94 : own_K p e below G0 T93 (mkF m 99 #[.val (.ref a0), .val (.ref a1), .val (.ref b3), .val (.ref b93), .val (.int eb), .val (.double (FP.dsub r1 (FP.dmul dm r0))), .second, .val (.int (1 : Int32)), .unset, .unset] [(.ref a0)]) := by
    intro t kt
    refine K93 t ?_
    refine XS.astoreN X93.here hx rfl (hb hby d6_97) rfl rfl (l' := #[.val (.ref a0), .val (.ref a1), .val (.ref b3), .val (.ref b93), .val (.int eb), .val (.double (FP.dsub r1 (FP.dmul dm r0))), .second, .val (.int (1 : Int32)), .unset, .unset]) rfl ?_
    show own_S p e below T93 (mkF m 98 _ []) _
    refine XS.aloadN X93.here hx rfl (hb hby d6_98) rfl rfl ?_
    show own_S p e below T93 (mkF m 99 _ [(.ref a0)]) _
    exact kt
  have f95 := (f74.ext E93)
  obtain ⟨T96, X96, e96, st96⟩ := getF X93 hx hZ hown (host := "") (Or.inl (hw _ (List.mem_of_getElem? (i := 43) rfl))) Via.refl e93 f95 (g := (mkF m 99 #[.val (.ref a0), .val (.ref a1), .val (.ref b3), .val (.ref b93), .val (.int eb), .val (.double (FP.dsub r1 (FP.dmul dm r0))), .second, .val (.int (1 : Int32)), .unset, .unset] [(.ref a0)])) rfl rfl (hb hby d6_99)
  have K96 : own_K p e below G0 T96 (mkF m 102 #[.val (.ref a0), .val (.ref a1), .val (.ref b3), .val (.ref b93), .val (.int eb), .val (.double (FP.dsub r1 (FP.dmul dm r0))), .second, .val (.int (1 : Int32)), .unset, .unset] [(.int (2 : Int32))]) := fun t kt => K94 t (st96 _ kt)
  have K97 : own_K p e below G0 T96 (mkF m 106 #[.val (.ref a0), .val (.ref a1), .val (.ref b3), .val (.ref b93), .val (.int ((2 : Int32) - (1 : Int32))), .val (.double (FP.dsub r1 (FP.dmul dm r0))), .second, .val (.int (1 : Int32)), .unset, .unset] []) := by
    intro t kt
    refine K96 t ?_
    refine XS.iconst X96.here hx rfl (hb hby d6_102) ?_
    show own_S p e below T96 (mkF m 103 _ [(.int (1 : Int32)), (.int (2 : Int32))]) _
    refine XS.isub X96.here hx rfl (hb hby d6_103) rfl ?_
    show own_S p e below T96 (mkF m 104 _ [(.int ((2 : Int32) - (1 : Int32)))]) _
    refine XS.istore X96.here hx rfl (hb hby d6_104) rfl (l' := #[.val (.ref a0), .val (.ref a1), .val (.ref b3), .val (.ref b93), .val (.int ((2 : Int32) - (1 : Int32))), .val (.double (FP.dsub r1 (FP.dmul dm r0))), .second, .val (.int (1 : Int32)), .unset, .unset]) rfl ?_
    show own_S p e below T96 (mkF m 106 _ []) _
    exact kt
  rw [show ((2 : Int32) - (1 : Int32)) = (1 : Int32) from by decide] at K97
  have K98 : own_K p e below G0 T96 (mkF m 112 #[.val (.ref a0), .val (.ref a1), .val (.ref b3), .val (.ref b93), .val (.int (1 : Int32)), .val (.double (FP.dsub r1 (FP.dmul dm r0))), .second, .val (.int (1 : Int32)), .unset, .unset] [(.ref a0)]) := by
    intro t kt
    refine K97 t ?_
    refine XS.iload X96.here hx rfl (hb hby d6_106) rfl ?_
    show own_S p e below T96 (mkF m 108 _ [(.int (1 : Int32))]) _
    refine XS.ifNo X96.here hx rfl (hb hby d6_108) rfl ((if0 _ _).trans (flt (by decide)).1) ?_
    show own_S p e below T96 (mkF m 111 _ []) _
    refine XS.aloadN X96.here hx rfl (hb hby d6_111) rfl rfl ?_
    show own_S p e below T96 (mkF m 112 _ [(.ref a0)]) _
    exact kt
  have f99 := ((((fc_8.ext E3).other W24 (Or.inl ne_a0_b3)).other W71 (Or.inl ne_a0_b3)).ext E93)
  obtain ⟨T100, X100, e100, st100⟩ := getF X96 hx hZ hown (host := "") (Or.inl (hw _ (List.mem_of_getElem? (i := 34) rfl))) Via.refl e96 f99 (g := (mkF m 112 #[.val (.ref a0), .val (.ref a1), .val (.ref b3), .val (.ref b93), .val (.int (1 : Int32)), .val (.double (FP.dsub r1 (FP.dmul dm r0))), .second, .val (.int (1 : Int32)), .unset, .unset] [(.ref a0)])) rfl rfl (hb hby d6_112)
  have K100 : own_K p e below G0 T100 (mkF m 115 #[.val (.ref a0), .val (.ref a1), .val (.ref b3), .val (.ref b93), .val (.int (1 : Int32)), .val (.double (FP.dsub r1 (FP.dmul dm r0))), .second, .val (.int (1 : Int32)), .unset, .unset] [(.ref pu)]) := fun t kt => K98 t (st100 _ kt)
  have K101 : own_K p e below G0 T100 (mkF m 117 #[.val (.ref a0), .val (.ref a1), .val (.ref b3), .val (.ref b93), .val (.int (1 : Int32)), .val (.double (FP.dsub r1 (FP.dmul dm r0))), .second, .val (.int (1 : Int32)), .unset, .unset] [(.int (1 : Int32)), (.ref pu)]) := by
    intro t kt
    refine K100 t ?_
    refine XS.iload X100.here hx rfl (hb hby d6_115) rfl ?_
    show own_S p e below T100 (mkF m 117 _ [(.int (1 : Int32)), (.ref pu)]) _
    exact kt
  have f102 := (f84.ext E93)
  obtain ⟨cl103, Ar103, qq103, S103, M103, H103, GG103⟩ := id f102
  have hin103 : ¬ ((1 : Int32) < 0 ∨ cl103.slots.size ≤ ((1 : Int32)).toNatClampNeg) := inb_of S103 ⟨by decide, by decide⟩
  have hat103 : cl103.slots[((1 : Int32)).toNatClampNeg]? = some (.ref rc) := Has.at H103 hin103 rfl
  have K104 : own_K p e below G0 T100 (mkF m 121 #[.val (.ref a0), .val (.ref a1), .val (.ref b3), .val (.ref b93), .val (.int (1 : Int32)), .val (.ref rc), .unset, .val (.int (1 : Int32)), .unset, .unset] [(.ref a0)]) := by
    intro t kt
    refine K101 t ?_
    refine X100.aaload hx (j := (1 : Int32)) (v := (.ref rc)) (by rw [e100]; exact (Ar103).1) (State.isArrayOf_alike hZ.alike (Ar103).2.1) rfl (Ar103).2.2 hin103 hat103 (g := (mkF m 117 #[.val (.ref a0), .val (.ref a1), .val (.ref b3), .val (.ref b93), .val (.int (1 : Int32)), .val (.double (FP.dsub r1 (FP.dmul dm r0))), .second, .val (.int (1 : Int32)), .unset, .unset] [(.int (1 : Int32)), (.ref pu)])) rfl rfl (hb hby d6_117) _ ?_
    show own_S p e below T100 (mkF m 118 _ [(.ref rc)]) _
    refine XS.astore X100.here hx rfl (hb hby d6_118) rfl rfl (l' := #[.val (.ref a0), .val (.ref a1), .val (.ref b3), .val (.ref b93), .val (.int (1 : Int32)), .val (.ref rc), .unset, .val (.int (1 : Int32)), .unset, .unset]) rfl ?_
    show own_S p e below T100 (mkF m 120 _ []) _
    refine XS.aloadN X100.here hx rfl (hb hby d6_120) rfl rfl ?_
    show own_S p e below T100 (mkF m 121 _ [(.ref a0)]) _
    exact kt
  have f105 := ((((fc_9.ext E3).other W24 (Or.inl ne_a0_b3)).other W71 (Or.inl ne_a0_b3)).ext E93)
  obtain ⟨T106, X106, e106, st106⟩ := getF X100 hx hZ hown (host := "") (Or.inl (hw _ (List.mem_of_getElem? (i := 36) rfl))) Via.refl e100 f105 (g := (mkF m 121 #[.val (.ref a0), .val (.ref a1), .val (.ref b3), .val (.ref b93), .val (.int (1 : Int32)), .val (.ref rc), .unset, .val (.int (1 : Int32)), .unset, .unset] [(.ref a0)])) rfl rfl (hb hby d6_121)
  have K106 : own_K p e below G0 T106 (mkF m 124 #[.val (.ref a0), .val (.ref a1), .val (.ref b3), .val (.ref b93), .val (.int (1 : Int32)), .val (.ref rc), .unset, .val (.int (1 : Int32)), .unset, .unset] [(.ref pc)]) := fun t kt => K104 t (st106 _ kt)
  have K107 : own_K p e below G0 T106 (mkF m 126 #[.val (.ref a0), .val (.ref a1), .val (.ref b3), .val (.ref b93), .val (.int (1 : Int32)), .val (.ref rc), .unset, .val (.int (1 : Int32)), .unset, .unset] [(.int (1 : Int32)), (.ref pc)]) := by
    intro t kt
    refine K106 t ?_
    refine XS.iload X106.here hx rfl (hb hby d6_124) rfl ?_
    show own_S p e below T106 (mkF m 126 _ [(.int (1 : Int32)), (.ref pc)]) _
    exact kt
  have f108 := (f85.ext E93)
  obtain ⟨cl109, Ar109, qq109, S109, M109, H109, GG109⟩ := id f108
  have hin109 : ¬ ((1 : Int32) < 0 ∨ cl109.slots.size ≤ ((1 : Int32)).toNatClampNeg) := inb_of S109 ⟨by decide, by decide⟩
  have hat109 : cl109.slots[((1 : Int32)).toNatClampNeg]? = some (.ref cc) := Has.at H109 hin109 rfl
  have K110 : own_K p e below G0 T106 (mkF m 132 #[.val (.ref a0), .val (.ref a1), .val (.ref b3), .val (.ref b93), .val (.int (1 : Int32)), .val (.ref rc), .val (.ref cc), .val (.int (1 : Int32)), .unset, .unset] [(.int (1 : Int32)), (.ref b3)]) := by
    intro t kt
    refine K107 t ?_
    refine X106.aaload hx (j := (1 : Int32)) (v := (.ref cc)) (by rw [e106]; exact (Ar109).1) (State.isArrayOf_alike hZ.alike (Ar109).2.1) rfl (Ar109).2.2 hin109 hat109 (g := (mkF m 126 #[.val (.ref a0), .val (.ref a1), .val (.ref b3), .val (.ref b93), .val (.int (1 : Int32)), .val (.ref rc), .unset, .val (.int (1 : Int32)), .unset, .unset] [(.int (1 : Int32)), (.ref pc)])) rfl rfl (hb hby d6_126) _ ?_
    show own_S p e below T106 (mkF m 127 _ [(.ref cc)]) _
    refine XS.astore X106.here hx rfl (hb hby d6_127) rfl rfl (l' := #[.val (.ref a0), .val (.ref a1), .val (.ref b3), .val (.ref b93), .val (.int (1 : Int32)), .val (.ref rc), .val (.ref cc), .val (.int (1 : Int32)), .unset, .unset]) rfl ?_
    show own_S p e below T106 (mkF m 129 _ []) _
    refine XS.aloadN X106.here hx rfl (hb hby d6_129) rfl rfl ?_
    show own_S p e below T106 (mkF m 130 _ [(.ref b3)]) _
    refine XS.iload X106.here hx rfl (hb hby d6_130) rfl ?_
    show own_S p e below T106 (mkF m 132 _ [(.int (1 : Int32)), (.ref b3)]) _
    exact kt
  have f111 := (VL71.ext E93)
  obtain ⟨cl112, Ar112, qq112, S112, M112, H112, GG112⟩ := id f111
  have hin112 : ¬ ((1 : Int32) < 0 ∨ cl112.slots.size ≤ ((1 : Int32)).toNatClampNeg) := inb_of S112 ⟨by decide, by decide⟩
  have hat112 : cl112.slots[((1 : Int32)).toNatClampNeg]? = some (.double (FP.dsub r1 (FP.dmul dm r0))) := Has.at H112 hin112 rfl
  have K113 : own_K p e below G0 T106 (mkF m 142 #[.val (.ref a0), .val (.ref a1), .val (.ref b3), .val (.ref b93), .val (.int (1 : Int32)), .val (.ref rc), .val (.ref cc), .val (.double (FP.dsub r1 (FP.dmul dm r0))), .second, .val (.int (1 : Int32))] [(.ref rc), (.int (1 : Int32))]) := by
    intro t kt
    refine K110 t ?_
    refine X106.daload hx (j := (1 : Int32)) (v := (.double (FP.dsub r1 (FP.dmul dm r0)))) (by rw [e106]; exact (Ar112).1) (State.isArrayOf_alike hZ.alike (Ar112).2.1) (Ar112).2.2 hin112 hat112 (g := (mkF m 132 #[.val (.ref a0), .val (.ref a1), .val (.ref b3), .val (.ref b93), .val (.int (1 : Int32)), .val (.ref rc), .val (.ref cc), .val (.int (1 : Int32)), .unset, .unset] [(.int (1 : Int32)), (.ref b3)])) rfl rfl (hb hby d6_132) _ ?_
    show own_S p e below T106 (mkF m 133 _ [(.double (FP.dsub r1 (FP.dmul dm r0)))]) _
    refine XS.dstore X106.here hx rfl (hb hby d6_133) rfl (l' := #[.val (.ref a0), .val (.ref a1), .val (.ref b3), .val (.ref b93), .val (.int (1 : Int32)), .val (.ref rc), .val (.ref cc), .val (.double (FP.dsub r1 (FP.dmul dm r0))), .second, .unset]) rfl ?_
    show own_S p e below T106 (mkF m 135 _ []) _
    refine XS.iconst X106.here hx rfl (hb hby d6_135) ?_
    show own_S p e below T106 (mkF m 136 _ [(.int (1 : Int32))]) _
    refine XS.istore X106.here hx rfl (hb hby d6_136) rfl (l' := #[.val (.ref a0), .val (.ref a1), .val (.ref b3), .val (.ref b93), .val (.int (1 : Int32)), .val (.ref rc), .val (.ref cc), .val (.double (FP.dsub r1 (FP.dmul dm r0))), .second, .val (.int (1 : Int32))]) rfl ?_
    show own_S p e below T106 (mkF m 138 _ []) _
    refine XS.iload X106.here hx rfl (hb hby d6_138) rfl ?_
    show own_S p e below T106 (mkF m 140 _ [(.int (1 : Int32))]) _
    refine XS.aload X106.here hx rfl (hb hby d6_140) rfl rfl ?_
    show own_S p e below T106 (mkF m 142 _ [(.ref rc), (.int (1 : Int32))]) _
    exact kt
  have f114 := (f89.ext E93)
  obtain ⟨cl115, Ar115, qq115, S115, M115, H115, GG115⟩ := id f114
  have K116 : own_K p e below G0 T106 (mkF m 174 #[.val (.ref a0), .val (.ref a1), .val (.ref b3), .val (.ref b93), .val (.int (1 : Int32)), .val (.ref rc), .val (.ref cc), .val (.double (FP.dsub r1 (FP.dmul dm r0))), .second, .val (.int (1 : Int32))] [(.int (0 : Int32)), (.ref rc), (.ref b93)]) := by
    intro t kt
    refine K113 t ?_
    refine X106.arraylength hx (by rw [e106]; exact (Ar115).1) (State.isArrayOf_alike hZ.alike (Ar115).2.1) (g := (mkF m 142 #[.val (.ref a0), .val (.ref a1), .val (.ref b3), .val (.ref b93), .val (.int (1 : Int32)), .val (.ref rc), .val (.ref cc), .val (.double (FP.dsub r1 (FP.dmul dm r0))), .second, .val (.int (1 : Int32))] [(.ref rc), (.int (1 : Int32))])) rfl rfl (hb hby d6_142) _ ?_
    rw [len_of S115 M115]
    show own_S p e below T106 (mkF m 143 #[.val (.ref a0), .val (.ref a1), .val (.ref b3), .val (.ref b93), .val (.int (1 : Int32)), .val (.ref rc), .val (.ref cc), .val (.double (FP.dsub r1 (FP.dmul dm r0))), .second, .val (.int (1 : Int32))] [(.int (1 : Int32)), (.int (1 : Int32))]) _
    refine XS.icmpYes X106.here hx rfl (pc0 := 143) (pc' := 170) rfl (hb hby d6_143) rfl (flt (by decide)).2.1 (by decide) (by decide) ?_
    show own_S p e below T106 (mkF m 170 _ []) _
    refine XS.aloadN X106.here hx rfl (hb hby d6_170) rfl rfl ?_
    show own_S p e below T106 (mkF m 171 _ [(.ref b93)]) _
    refine XS.aload X106.here hx rfl (hb hby d6_171) rfl rfl ?_
    show own_S p e below T106 (mkF m 173 _ [(.ref rc), (.ref b93)]) _
    refine XS.iconst X106.here hx rfl (hb hby d6_173) ?_
    show own_S p e below T106 (mkF m 174 _ [(.int (0 : Int32)), (.ref rc), (.ref b93)]) _
    exact kt
  obtain ⟨cl117, Ar117, qq117, S117, M117, H117, GG117⟩ := id f114
  have hin117 : ¬ ((0 : Int32) < 0 ∨ cl117.slots.size ≤ ((0 : Int32)).toNatClampNeg) := inb_of S117 ⟨by decide, by decide⟩
  have hat117 : cl117.slots[((0 : Int32)).toNatClampNeg]? = some (.int g1) := Has.at H117 hin117 rfl
  have K118 : own_K p e below G0 T106 (mkF m 180 #[.val (.ref a0), .val (.ref a1), .val (.ref b3), .val (.ref b93), .val (.int (1 : Int32)), .val (.ref rc), .val (.ref cc), .val (.double (FP.dsub r1 (FP.dmul dm r0))), .second, .val (.int (1 : Int32))] [(.int (0 : Int32)), (.ref cc), (.double (FP.dsub r1 (FP.dmul dm r0))), (.int g1), (.ref b93)]) := by
    intro t kt
    refine K116 t ?_
    refine X106.iaload hx (j := (0 : Int32)) (v := (.int g1)) (by rw [e106]; exact (Ar117).1) (State.isArrayOf_alike hZ.alike (Ar117).2.1) (Ar117).2.2 hin117 hat117 (g := (mkF m 174 #[.val (.ref a0), .val (.ref a1), .val (.ref b3), .val (.ref b93), .val (.int (1 : Int32)), .val (.ref rc), .val (.ref cc), .val (.double (FP.dsub r1 (FP.dmul dm r0))), .second, .val (.int (1 : Int32))] [(.int (0 : Int32)), (.ref rc), (.ref b93)])) rfl rfl (hb hby d6_174) _ ?_
    show own_S p e below T106 (mkF m 175 _ [(.int g1), (.ref b93)]) _
    refine XS.dload X106.here hx rfl (hb hby d6_175) rfl ?_
    show own_S p e below T106 (mkF m 177 _ [(.double (FP.dsub r1 (FP.dmul dm r0))), (.int g1), (.ref b93)]) _
    refine XS.aload X106.here hx rfl (hb hby d6_177) rfl rfl ?_
    show own_S p e below T106 (mkF m 179 _ [(.ref cc), (.double (FP.dsub r1 (FP.dmul dm r0))), (.int g1), (.ref b93)]) _
    refine XS.iconst X106.here hx rfl (hb hby d6_179) ?_
    show own_S p e below T106 (mkF m 180 _ [(.int (0 : Int32)), (.ref cc), (.double (FP.dsub r1 (FP.dmul dm r0))), (.int g1), (.ref b93)]) _
    exact kt
  have f119 := (f90.ext E93)
  obtain ⟨cl120, Ar120, qq120, S120, M120, H120, GG120⟩ := id f119
  have hin120 : ¬ ((0 : Int32) < 0 ∨ cl120.slots.size ≤ ((0 : Int32)).toNatClampNeg) := inb_of S120 ⟨by decide, by decide⟩
  have hat120 : cl120.slots[((0 : Int32)).toNatClampNeg]? = some (.double dc) := Has.at H120 hin120 rfl
  have K121 : own_K p e below G0 T106 (mkF m 182 #[.val (.ref a0), .val (.ref a1), .val (.ref b3), .val (.ref b93), .val (.int (1 : Int32)), .val (.ref rc), .val (.ref cc), .val (.double (FP.dsub r1 (FP.dmul dm r0))), .second, .val (.int (1 : Int32))] [(.double (FP.ddiv (FP.dsub r1 (FP.dmul dm r0)) dc)), (.int g1), (.ref b93)]) := by
    intro t kt
    refine K118 t ?_
    refine X106.daload hx (j := (0 : Int32)) (v := (.double dc)) (by rw [e106]; exact (Ar120).1) (State.isArrayOf_alike hZ.alike (Ar120).2.1) (Ar120).2.2 hin120 hat120 (g := (mkF m 180 #[.val (.ref a0), .val (.ref a1), .val (.ref b3), .val (.ref b93), .val (.int (1 : Int32)), .val (.ref rc), .val (.ref cc), .val (.double (FP.dsub r1 (FP.dmul dm r0))), .second, .val (.int (1 : Int32))] [(.int (0 : Int32)), (.ref cc), (.double (FP.dsub r1 (FP.dmul dm r0))), (.int g1), (.ref b93)])) rfl rfl (hb hby d6_180) _ ?_
    show own_S p e below T106 (mkF m 181 _ [(.double dc), (.double (FP.dsub r1 (FP.dmul dm r0))), (.int g1), (.ref b93)]) _
    refine XS.ddivS X106.here hx rfl (hb hby d6_181) rfl (own_V_nonan qx) rfl ?_
    show own_S p e below T106 (mkF m 182 _ [(.double (FP.ddiv (FP.dsub r1 (FP.dmul dm r0)) dc)), (.int g1), (.ref b93)]) _
    exact kt
  obtain ⟨cl122, Ar122, qq122, S122, M122, H122, GG122⟩ := id VSb93
  have hin122 := inb_of S122 (own_in3 hR1)
  obtain ⟨T123, h123, X123, e123, W123, st123⟩ := stD X106 hx hZ e106 Ar122 (j := g1) hin122 (g := (mkF m 182 #[.val (.ref a0), .val (.ref a1), .val (.ref b3), .val (.ref b93), .val (.int (1 : Int32)), .val (.ref rc), .val (.ref cc), .val (.double (FP.dsub r1 (FP.dmul dm r0))), .second, .val (.int (1 : Int32))] [(.double (FP.ddiv (FP.dsub r1 (FP.dmul dm r0)) dc)), (.int g1), (.ref b93)])) rfl rfl (hb hby d6_182)
  have K123 : own_K p e below G0 T123 (mkF m 183 #[.val (.ref a0), .val (.ref a1), .val (.ref b3), .val (.ref b93), .val (.int (1 : Int32)), .val (.ref rc), .val (.ref cc), .val (.double (FP.dsub r1 (FP.dmul dm r0))), .second, .val (.int (1 : Int32))] []) := fun t kt => K121 t (st123 _ kt)
  have Z123 : n0 ≤ h123.size := Nat.le_trans Z93 (Keep.of_wr W123).1
  have VL123 : Arv Z h123 b93 k93 .double (3 : Int32) (own_l3 (own_u g1 (.double (FP.ddiv (FP.dsub r1 (FP.dmul dm r0)) dc)) (fun _ => (.double 0)))) (.double 0) := by
    rw [← own_s3 hR1]
    exact Arv.set Ar122 qq122 S122 M122 H122 GG122 rfl W123 (g1).toNatClampNeg rfl (own_n3 hR1)
  have N123 := Fr.snoc X123 N71 gn93
  have K124 : own_K p e below G0 T123 (mkF m 186 #[.val (.ref a0), .val (.ref a1), .val (.ref b3), .val (.ref b93), .val (.int ((1 : Int32) + (-1 : Int32))), .val (.ref rc), .val (.ref cc), .val (.double (FP.dsub r1 (FP.dmul dm r0))), .second, .val (.int (1 : Int32))] []) := by
    intro t kt
    refine K123 t ?_
    refine XS.iinc X123.here hx rfl (hb hby d6_183) rfl (l' := #[.val (.ref a0), .val (.ref a1), .val (.ref b3), .val (.ref b93), .val (.int ((1 : Int32) + (-1 : Int32))), .val (.ref rc), .val (.ref cc), .val (.double (FP.dsub r1 (FP.dmul dm r0))), .second, .val (.int (1 : Int32))]) rfl ?_
    show own_S p e below T123 (mkF m 186 _ []) _
    exact kt
  rw [show ((1 : Int32) + (-1 : Int32)) = (0 : Int32) from by decide] at K124
  have K125 : own_K p e below G0 T123 (mkF m 112 #[.val (.ref a0), .val (.ref a1), .val (.ref b3), .val (.ref b93), .val (.int (0 : Int32)), .val (.ref rc), .val (.ref cc), .val (.double (FP.dsub r1 (FP.dmul dm r0))), .second, .val (.int (1 : Int32))] [(.ref a0)]) := by
    intro t kt
    refine K124 t ?_
    refine XS.goto X123.here hx rfl (pc0 := 186) (pc' := 106) rfl (hb hby d6_186) (by decide) (by decide) ?_
    show own_S p e below T123 (mkF m 106 _ []) _
    refine XS.iload X123.here hx rfl (hb hby d6_106) rfl ?_
    show own_S p e below T123 (mkF m 108 _ [(.int (0 : Int32))]) _
    refine XS.ifNo X123.here hx rfl (hb hby d6_108) rfl ((if0 _ _).trans (flt (by decide)).1) ?_
    show own_S p e below T123 (mkF m 111 _ []) _
    refine XS.aloadN X123.here hx rfl (hb hby d6_111) rfl rfl ?_
    show own_S p e below T123 (mkF m 112 _ [(.ref a0)]) _
    exact kt
  have f126 := (f99.other W123 (Or.inl ne_a0_b93))
  obtain ⟨T127, X127, e127, st127⟩ := getF X123 hx hZ hown (host := "") (Or.inl (hw _ (List.mem_of_getElem? (i := 34) rfl))) Via.refl e123 f126 (g := (mkF m 112 #[.val (.ref a0), .val (.ref a1), .val (.ref b3), .val (.ref b93), .val (.int (0 : Int32)), .val (.ref rc), .val (.ref cc), .val (.double (FP.dsub r1 (FP.dmul dm r0))), .second, .val (.int (1 : Int32))] [(.ref a0)])) rfl rfl (hb hby d6_112)
  have K127 : own_K p e below G0 T127 (mkF m 115 #[.val (.ref a0), .val (.ref a1), .val (.ref b3), .val (.ref b93), .val (.int (0 : Int32)), .val (.ref rc), .val (.ref cc), .val (.double (FP.dsub r1 (FP.dmul dm r0))), .second, .val (.int (1 : Int32))] [(.ref pu)]) := fun t kt => K125 t (st127 _ kt)
  have K128 : own_K p e below G0 T127 (mkF m 117 #[.val (.ref a0), .val (.ref a1), .val (.ref b3), .val (.ref b93), .val (.int (0 : Int32)), .val (.ref rc), .val (.ref cc), .val (.double (FP.dsub r1 (FP.dmul dm r0))), .second, .val (.int (1 : Int32))] [(.int (0 : Int32)), (.ref pu)]) := by
    intro t kt
    refine K127 t ?_
    refine XS.iload X127.here hx rfl (hb hby d6_115) rfl ?_
    show own_S p e below T127 (mkF m 117 _ [(.int (0 : Int32)), (.ref pu)]) _
    exact kt
  have f129 := (f102.other W123 ne_pu_b93)
  obtain ⟨cl130, Ar130, qq130, S130, M130, H130, GG130⟩ := id f129
  have hin130 : ¬ ((0 : Int32) < 0 ∨ cl130.slots.size ≤ ((0 : Int32)).toNatClampNeg) := inb_of S130 ⟨by decide, by decide⟩
  have hat130 : cl130.slots[((0 : Int32)).toNatClampNeg]? = some (.ref ra) := Has.at H130 hin130 rfl
  have K131 : own_K p e below G0 T127 (mkF m 121 #[.val (.ref a0), .val (.ref a1), .val (.ref b3), .val (.ref b93), .val (.int (0 : Int32)), .val (.ref ra), .val (.ref cc), .val (.double (FP.dsub r1 (FP.dmul dm r0))), .second, .val (.int (1 : Int32))] [(.ref a0)]) := by
    intro t kt
    refine K128 t ?_
    refine X127.aaload hx (j := (0 : Int32)) (v := (.ref ra)) (by rw [e127]; exact (Ar130).1) (State.isArrayOf_alike hZ.alike (Ar130).2.1) rfl (Ar130).2.2 hin130 hat130 (g := (mkF m 117 #[.val (.ref a0), .val (.ref a1), .val (.ref b3), .val (.ref b93), .val (.int (0 : Int32)), .val (.ref rc), .val (.ref cc), .val (.double (FP.dsub r1 (FP.dmul dm r0))), .second, .val (.int (1 : Int32))] [(.int (0 : Int32)), (.ref pu)])) rfl rfl (hb hby d6_117) _ ?_
    show own_S p e below T127 (mkF m 118 _ [(.ref ra)]) _
    refine XS.astore X127.here hx rfl (hb hby d6_118) rfl rfl (l' := #[.val (.ref a0), .val (.ref a1), .val (.ref b3), .val (.ref b93), .val (.int (0 : Int32)), .val (.ref ra), .val (.ref cc), .val (.double (FP.dsub r1 (FP.dmul dm r0))), .second, .val (.int (1 : Int32))]) rfl ?_
    show own_S p e below T127 (mkF m 120 _ []) _
    refine XS.aloadN X127.here hx rfl (hb hby d6_120) rfl rfl ?_
    show own_S p e below T127 (mkF m 121 _ [(.ref a0)]) _
    exact kt
  have f132 := (f105.other W123 (Or.inl ne_a0_b93))
  obtain ⟨T133, X133, e133, st133⟩ := getF X127 hx hZ hown (host := "") (Or.inl (hw _ (List.mem_of_getElem? (i := 36) rfl))) Via.refl e127 f132 (g := (mkF m 121 #[.val (.ref a0), .val (.ref a1), .val (.ref b3), .val (.ref b93), .val (.int (0 : Int32)), .val (.ref ra), .val (.ref cc), .val (.double (FP.dsub r1 (FP.dmul dm r0))), .second, .val (.int (1 : Int32))] [(.ref a0)])) rfl rfl (hb hby d6_121)
  have K133 : own_K p e below G0 T133 (mkF m 124 #[.val (.ref a0), .val (.ref a1), .val (.ref b3), .val (.ref b93), .val (.int (0 : Int32)), .val (.ref ra), .val (.ref cc), .val (.double (FP.dsub r1 (FP.dmul dm r0))), .second, .val (.int (1 : Int32))] [(.ref pc)]) := fun t kt => K131 t (st133 _ kt)
  have K134 : own_K p e below G0 T133 (mkF m 126 #[.val (.ref a0), .val (.ref a1), .val (.ref b3), .val (.ref b93), .val (.int (0 : Int32)), .val (.ref ra), .val (.ref cc), .val (.double (FP.dsub r1 (FP.dmul dm r0))), .second, .val (.int (1 : Int32))] [(.int (0 : Int32)), (.ref pc)]) := by
    intro t kt
    refine K133 t ?_
    refine XS.iload X133.here hx rfl (hb hby d6_124) rfl ?_
    show own_S p e below T133 (mkF m 126 _ [(.int (0 : Int32)), (.ref pc)]) _
    exact kt
  have f135 := (f108.other W123 ne_pc_b93)
  obtain ⟨cl136, Ar136, qq136, S136, M136, H136, GG136⟩ := id f135
  have hin136 : ¬ ((0 : Int32) < 0 ∨ cl136.slots.size ≤ ((0 : Int32)).toNatClampNeg) := inb_of S136 ⟨by decide, by decide⟩
  have hat136 : cl136.slots[((0 : Int32)).toNatClampNeg]? = some (.ref ca) := Has.at H136 hin136 rfl
  have K137 : own_K p e below G0 T133 (mkF m 132 #[.val (.ref a0), .val (.ref a1), .val (.ref b3), .val (.ref b93), .val (.int (0 : Int32)), .val (.ref ra), .val (.ref ca), .val (.double (FP.dsub r1 (FP.dmul dm r0))), .second, .val (.int (1 : Int32))] [(.int (0 : Int32)), (.ref b3)]) := by
    intro t kt
    refine K134 t ?_
    refine X133.aaload hx (j := (0 : Int32)) (v := (.ref ca)) (by rw [e133]; exact (Ar136).1) (State.isArrayOf_alike hZ.alike (Ar136).2.1) rfl (Ar136).2.2 hin136 hat136 (g := (mkF m 126 #[.val (.ref a0), .val (.ref a1), .val (.ref b3), .val (.ref b93), .val (.int (0 : Int32)), .val (.ref ra), .val (.ref cc), .val (.double (FP.dsub r1 (FP.dmul dm r0))), .second, .val (.int (1 : Int32))] [(.int (0 : Int32)), (.ref pc)])) rfl rfl (hb hby d6_126) _ ?_
    show own_S p e below T133 (mkF m 127 _ [(.ref ca)]) _
    refine XS.astore X133.here hx rfl (hb hby d6_127) rfl rfl (l' := #[.val (.ref a0), .val (.ref a1), .val (.ref b3), .val (.ref b93), .val (.int (0 : Int32)), .val (.ref ra), .val (.ref ca), .val (.double (FP.dsub r1 (FP.dmul dm r0))), .second, .val (.int (1 : Int32))]) rfl ?_
    show own_S p e below T133 (mkF m 129 _ []) _
    refine XS.aloadN X133.here hx rfl (hb hby d6_129) rfl rfl ?_
    show own_S p e below T133 (mkF m 130 _ [(.ref b3)]) _
    refine XS.iload X133.here hx rfl (hb hby d6_130) rfl ?_
    show own_S p e below T133 (mkF m 132 _ [(.int (0 : Int32)), (.ref b3)]) _
    exact kt
  have f138 := (f111.other W123 ne_b3_b93)
  obtain ⟨cl139, Ar139, qq139, S139, M139, H139, GG139⟩ := id f138
  have hin139 : ¬ ((0 : Int32) < 0 ∨ cl139.slots.size ≤ ((0 : Int32)).toNatClampNeg) := inb_of S139 ⟨by decide, by decide⟩
  have hat139 : cl139.slots[((0 : Int32)).toNatClampNeg]? = some (.double r0) := Has.at H139 hin139 rfl
  have K140 : own_K p e below G0 T133 (mkF m 142 #[.val (.ref a0), .val (.ref a1), .val (.ref b3), .val (.ref b93), .val (.int (0 : Int32)), .val (.ref ra), .val (.ref ca), .val (.double r0), .second, .val (.int (1 : Int32))] [(.ref ra), (.int (1 : Int32))]) := by
    intro t kt
    refine K137 t ?_
    refine X133.daload hx (j := (0 : Int32)) (v := (.double r0)) (by rw [e133]; exact (Ar139).1) (State.isArrayOf_alike hZ.alike (Ar139).2.1) (Ar139).2.2 hin139 hat139 (g := (mkF m 132 #[.val (.ref a0), .val (.ref a1), .val (.ref b3), .val (.ref b93), .val (.int (0 : Int32)), .val (.ref ra), .val (.ref ca), .val (.double (FP.dsub r1 (FP.dmul dm r0))), .second, .val (.int (1 : Int32))] [(.int (0 : Int32)), (.ref b3)])) rfl rfl (hb hby d6_132) _ ?_
    show own_S p e below T133 (mkF m 133 _ [(.double r0)]) _
    refine XS.dstore X133.here hx rfl (hb hby d6_133) rfl (l' := #[.val (.ref a0), .val (.ref a1), .val (.ref b3), .val (.ref b93), .val (.int (0 : Int32)), .val (.ref ra), .val (.ref ca), .val (.double r0), .second, .val (.int (1 : Int32))]) rfl ?_
    show own_S p e below T133 (mkF m 135 _ []) _
    refine XS.iconst X133.here hx rfl (hb hby d6_135) ?_
    show own_S p e below T133 (mkF m 136 _ [(.int (1 : Int32))]) _
    refine XS.istore X133.here hx rfl (hb hby d6_136) rfl (l' := #[.val (.ref a0), .val (.ref a1), .val (.ref b3), .val (.ref b93), .val (.int (0 : Int32)), .val (.ref ra), .val (.ref ca), .val (.double r0), .second, .val (.int (1 : Int32))]) rfl ?_
    show own_S p e below T133 (mkF m 138 _ []) _
    refine XS.iload X133.here hx rfl (hb hby d6_138) rfl ?_
    show own_S p e below T133 (mkF m 140 _ [(.int (1 : Int32))]) _
    refine XS.aload X133.here hx rfl (hb hby d6_140) rfl rfl ?_
    show own_S p e below T133 (mkF m 142 _ [(.ref ra), (.int (1 : Int32))]) _
    exact kt
  have f141 := ((f87.ext E93).other W123 ne_ra_b93)
  obtain ⟨cl142, Ar142, qq142, S142, M142, H142, GG142⟩ := id f141
  have K143 : own_K p e below G0 T133 (mkF m 152 #[.val (.ref a0), .val (.ref a1), .val (.ref b3), .val (.ref b93), .val (.int (0 : Int32)), .val (.ref ra), .val (.ref ca), .val (.double r0), .second, .val (.int (1 : Int32))] [(.int (1 : Int32)), (.ref ca), (.double r0)]) := by
    intro t kt
    refine K140 t ?_
    refine X133.arraylength hx (by rw [e133]; exact (Ar142).1) (State.isArrayOf_alike hZ.alike (Ar142).2.1) (g := (mkF m 142 #[.val (.ref a0), .val (.ref a1), .val (.ref b3), .val (.ref b93), .val (.int (0 : Int32)), .val (.ref ra), .val (.ref ca), .val (.double r0), .second, .val (.int (1 : Int32))] [(.ref ra), (.int (1 : Int32))])) rfl rfl (hb hby d6_142) _ ?_
    rw [len_of S142 M142]
    show own_S p e below T133 (mkF m 143 #[.val (.ref a0), .val (.ref a1), .val (.ref b3), .val (.ref b93), .val (.int (0 : Int32)), .val (.ref ra), .val (.ref ca), .val (.double r0), .second, .val (.int (1 : Int32))] [(.int (2 : Int32)), (.int (1 : Int32))]) _
    refine XS.icmpNo X133.here hx rfl (hb hby d6_143) rfl (tlt (by decide)).2.1 ?_
    show own_S p e below T133 (mkF m 146 _ []) _
    refine XS.dload X133.here hx rfl (hb hby d6_146) rfl ?_
    show own_S p e below T133 (mkF m 148 _ [(.double r0)]) _
    refine XS.aload X133.here hx rfl (hb hby d6_148) rfl rfl ?_
    show own_S p e below T133 (mkF m 150 _ [(.ref ca), (.double r0)]) _
    refine XS.iload X133.here hx rfl (hb hby d6_150) rfl ?_
    show own_S p e below T133 (mkF m 152 _ [(.int (1 : Int32)), (.ref ca), (.double r0)]) _
    exact kt
  have f144 := ((f88.ext E93).other W123 ne_ca_b93)
  obtain ⟨cl145, Ar145, qq145, S145, M145, H145, GG145⟩ := id f144
  have hin145 : ¬ ((1 : Int32) < 0 ∨ cl145.slots.size ≤ ((1 : Int32)).toNatClampNeg) := inb_of S145 ⟨by decide, by decide⟩
  have hat145 : cl145.slots[((1 : Int32)).toNatClampNeg]? = some (.double db) := Has.at H145 hin145 rfl
  have K146 : own_K p e below G0 T133 (mkF m 158 #[.val (.ref a0), .val (.ref a1), .val (.ref b3), .val (.ref b93), .val (.int (0 : Int32)), .val (.ref ra), .val (.ref ca), .val (.double r0), .second, .val (.int (1 : Int32))] [(.int (1 : Int32)), (.ref ra), (.ref b93), (.double db), (.double r0)]) := by
    intro t kt
    refine K143 t ?_
    refine X133.daload hx (j := (1 : Int32)) (v := (.double db)) (by rw [e133]; exact (Ar145).1) (State.isArrayOf_alike hZ.alike (Ar145).2.1) (Ar145).2.2 hin145 hat145 (g := (mkF m 152 #[.val (.ref a0), .val (.ref a1), .val (.ref b3), .val (.ref b93), .val (.int (0 : Int32)), .val (.ref ra), .val (.ref ca), .val (.double r0), .second, .val (.int (1 : Int32))] [(.int (1 : Int32)), (.ref ca), (.double r0)])) rfl rfl (hb hby d6_152) _ ?_
    show own_S p e below T133 (mkF m 153 _ [(.double db), (.double r0)]) _
    refine XS.aloadN X133.here hx rfl (hb hby d6_153) rfl rfl ?_
    show own_S p e below T133 (mkF m 154 _ [(.ref b93), (.double db), (.double r0)]) _
    refine XS.aload X133.here hx rfl (hb hby d6_154) rfl rfl ?_
    show own_S p e below T133 (mkF m 156 _ [(.ref ra), (.ref b93), (.double db), (.double r0)]) _
    refine XS.iload X133.here hx rfl (hb hby d6_156) rfl ?_
    show own_S p e below T133 (mkF m 158 _ [(.int (1 : Int32)), (.ref ra), (.ref b93), (.double db), (.double r0)]) _
    exact kt
  obtain ⟨cl147, Ar147, qq147, S147, M147, H147, GG147⟩ := id f141
  have hin147 : ¬ ((1 : Int32) < 0 ∨ cl147.slots.size ≤ ((1 : Int32)).toNatClampNeg) := inb_of S147 ⟨by decide, by decide⟩
  have hat147 : cl147.slots[((1 : Int32)).toNatClampNeg]? = some (.int g1) := Has.at H147 hin147 rfl
  have K148 : own_K p e below G0 T133 (mkF m 159 #[.val (.ref a0), .val (.ref a1), .val (.ref b3), .val (.ref b93), .val (.int (0 : Int32)), .val (.ref ra), .val (.ref ca), .val (.double r0), .second, .val (.int (1 : Int32))] [(.int g1), (.ref b93), (.double db), (.double r0)]) := by
    intro t kt
    refine K146 t ?_
    refine X133.iaload hx (j := (1 : Int32)) (v := (.int g1)) (by rw [e133]; exact (Ar147).1) (State.isArrayOf_alike hZ.alike (Ar147).2.1) (Ar147).2.2 hin147 hat147 (g := (mkF m 158 #[.val (.ref a0), .val (.ref a1), .val (.ref b3), .val (.ref b93), .val (.int (0 : Int32)), .val (.ref ra), .val (.ref ca), .val (.double r0), .second, .val (.int (1 : Int32))] [(.int (1 : Int32)), (.ref ra), (.ref b93), (.double db), (.double r0)])) rfl rfl (hb hby d6_158) _ ?_
    show own_S p e below T133 (mkF m 159 _ [(.int g1), (.ref b93), (.double db), (.double r0)]) _
    exact kt
  obtain ⟨cl149, Ar149, qq149, S149, M149, H149, GG149⟩ := id VL123
  have hin149 := inb_of S149 (own_in3 hR1)
  have hat149 : cl149.slots[(g1).toNatClampNeg]? = some (.double (FP.ddiv (FP.dsub r1 (FP.dmul dm r0)) dc)) := Has.at H149 hin149 ((own_g3 hR1).trans own_u1)
  have K150 : own_K p e below G0 T133 (mkF m 167 #[.val (.ref a0), .val (.ref a1), .val (.ref b3), .val (.ref b93), .val (.int (0 : Int32)), .val (.ref ra), .val (.ref ca), .val (.double (FP.dsub r0 (FP.dmul db (FP.ddiv (FP.dsub r1 (FP.dmul dm r0)) dc)))), .second, .val (.int ((1 : Int32) + (1 : Int32)))] []) := by
    intro t kt
    refine K148 t ?_
    refine X133.daload hx (j := g1) (v := (.double (FP.ddiv (FP.dsub r1 (FP.dmul dm r0)) dc))) (by rw [e133]; exact (Ar149).1) (State.isArrayOf_alike hZ.alike (Ar149).2.1) (Ar149).2.2 hin149 hat149 (g := (mkF m 159 #[.val (.ref a0), .val (.ref a1), .val (.ref b3), .val (.ref b93), .val (.int (0 : Int32)), .val (.ref ra), .val (.ref ca), .val (.double r0), .second, .val (.int (1 : Int32))] [(.int g1), (.ref b93), (.double db), (.double r0)])) rfl rfl (hb hby d6_159) _ ?_
    show own_S p e below T133 (mkF m 160 _ [(.double (FP.ddiv (FP.dsub r1 (FP.dmul dm r0)) dc)), (.double db), (.double r0)]) _
    refine XS.dmulS X133.here hx rfl (hb hby d6_160) rfl (own_V_nonan qe) rfl ?_
    show own_S p e below T133 (mkF m 161 _ [(.double (FP.dmul db (FP.ddiv (FP.dsub r1 (FP.dmul dm r0)) dc))), (.double r0)]) _
    refine XS.dsubS X133.here hx rfl (hb hby d6_161) rfl (own_V_nonan qf) rfl ?_
    show own_S p e below T133 (mkF m 162 _ [(.double (FP.dsub r0 (FP.dmul db (FP.ddiv (FP.dsub r1 (FP.dmul dm r0)) dc))))]) _
    refine XS.dstore X133.here hx rfl (hb hby d6_162) rfl (l' := #[.val (.ref a0), .val (.ref a1), .val (.ref b3), .val (.ref b93), .val (.int (0 : Int32)), .val (.ref ra), .val (.ref ca), .val (.double (FP.dsub r0 (FP.dmul db (FP.ddiv (FP.dsub r1 (FP.dmul dm r0)) dc)))), .second, .val (.int (1 : Int32))]) rfl ?_
    show own_S p e below T133 (mkF m 164 _ []) _
    refine XS.iinc X133.here hx rfl (hb hby d6_164) rfl (l' := #[.val (.ref a0), .val (.ref a1), .val (.ref b3), .val (.ref b93), .val (.int (0 : Int32)), .val (.ref ra), .val (.ref ca), .val (.double (FP.dsub r0 (FP.dmul db (FP.ddiv (FP.dsub r1 (FP.dmul dm r0)) dc)))), .second, .val (.int ((1 : Int32) + (1 : Int32)))]) rfl ?_
    show own_S p e below T133 (mkF m 167 _ []) _
    exact kt
  rw [show ((1 : Int32) + (1 : Int32)) = (2 : Int32) from by decide] at K150
  have K151 : own_K p e below G0 T133 (mkF m 142 #[.val (.ref a0), .val (.ref a1), .val (.ref b3), .val (.ref b93), .val (.int (0 : Int32)), .val (.ref ra), .val (.ref ca), .val (.double (FP.dsub r0 (FP.dmul db (FP.ddiv (FP.dsub r1 (FP.dmul dm r0)) dc)))), .second, .val (.int (2 : Int32))] [(.ref ra), (.int (2 : Int32))]) := by
    intro t kt
    refine K150 t ?_
    refine XS.goto X133.here hx rfl (pc0 := 167) (pc' := 138) rfl (hb hby d6_167) (by decide) (by decide) ?_
    show own_S p e below T133 (mkF m 138 _ []) _
    refine XS.iload X133.here hx rfl (hb hby d6_138) rfl ?_
    show own_S p e below T133 (mkF m 140 _ [(.int (2 : Int32))]) _
    refine XS.aload X133.here hx rfl (hb hby d6_140) rfl rfl ?_
    show own_S p e below T133 (mkF m 142 _ [(.ref ra), (.int (2 : Int32))]) _
    exact kt
  obtain ⟨cl152, Ar152, qq152, S152, M152, H152, GG152⟩ := id f141
  have K153 : own_K p e below G0 T133 (mkF m 174 #[.val (.ref a0), .val (.ref a1), .val (.ref b3), .val (.ref b93), .val (.int (0 : Int32)), .val (.ref ra), .val (.ref ca), .val (.double (FP.dsub r0 (FP.dmul db (FP.ddiv (FP.dsub r1 (FP.dmul dm r0)) dc)))), .second, .val (.int (2 : Int32))] [(.int (0 : Int32)), (.ref ra), (.ref b93)]) := by
    intro t kt
    refine K151 t ?_
    refine X133.arraylength hx (by rw [e133]; exact (Ar152).1) (State.isArrayOf_alike hZ.alike (Ar152).2.1) (g := (mkF m 142 #[.val (.ref a0), .val (.ref a1), .val (.ref b3), .val (.ref b93), .val (.int (0 : Int32)), .val (.ref ra), .val (.ref ca), .val (.double (FP.dsub r0 (FP.dmul db (FP.ddiv (FP.dsub r1 (FP.dmul dm r0)) dc)))), .second, .val (.int (2 : Int32))] [(.ref ra), (.int (2 : Int32))])) rfl rfl (hb hby d6_142) _ ?_
    rw [len_of S152 M152]
    show own_S p e below T133 (mkF m 143 #[.val (.ref a0), .val (.ref a1), .val (.ref b3), .val (.ref b93), .val (.int (0 : Int32)), .val (.ref ra), .val (.ref ca), .val (.double (FP.dsub r0 (FP.dmul db (FP.ddiv (FP.dsub r1 (FP.dmul dm r0)) dc)))), .second, .val (.int (2 : Int32))] [(.int (2 : Int32)), (.int (2 : Int32))]) _
    refine XS.icmpYes X133.here hx rfl (pc0 := 143) (pc' := 170) rfl (hb hby d6_143) rfl (flt (by decide)).2.1 (by decide) (by decide) ?_
    show own_S p e below T133 (mkF m 170 _ []) _
    refine XS.aloadN X133.here hx rfl (hb hby d6_170) rfl rfl ?_
    show own_S p e below T133 (mkF m 171 _ [(.ref b93)]) _
    refine XS.aload X133.here hx rfl (hb hby d6_171) rfl rfl ?_
    show own_S p e below T133 (mkF m 173 _ [(.ref ra), (.ref b93)]) _
    refine XS.iconst X133.here hx rfl (hb hby d6_173) ?_
    show own_S p e below T133 (mkF m 174 _ [(.int (0 : Int32)), (.ref ra), (.ref b93)]) _
    exact kt
  obtain ⟨cl154, Ar154, qq154, S154, M154, H154, GG154⟩ := id f141
  have hin154 : ¬ ((0 : Int32) < 0 ∨ cl154.slots.size ≤ ((0 : Int32)).toNatClampNeg) := inb_of S154 ⟨by decide, by decide⟩
  have hat154 : cl154.slots[((0 : Int32)).toNatClampNeg]? = some (.int g0) := Has.at H154 hin154 rfl
  have K155 : own_K p e below G0 T133 (mkF m 180 #[.val (.ref a0), .val (.ref a1), .val (.ref b3), .val (.ref b93), .val (.int (0 : Int32)), .val (.ref ra), .val (.ref ca), .val (.double (FP.dsub r0 (FP.dmul db (FP.ddiv (FP.dsub r1 (FP.dmul dm r0)) dc)))), .second, .val (.int (2 : Int32))] [(.int (0 : Int32)), (.ref ca), (.double (FP.dsub r0 (FP.dmul db (FP.ddiv (FP.dsub r1 (FP.dmul dm r0)) dc)))), (.int g0), (.ref b93)]) := by
    intro t kt
    refine K153 t ?_
    refine X133.iaload hx (j := (0 : Int32)) (v := (.int g0)) (by rw [e133]; exact (Ar154).1) (State.isArrayOf_alike hZ.alike (Ar154).2.1) (Ar154).2.2 hin154 hat154 (g := (mkF m 174 #[.val (.ref a0), .val (.ref a1), .val (.ref b3), .val (.ref b93), .val (.int (0 : Int32)), .val (.ref ra), .val (.ref ca), .val (.double (FP.dsub r0 (FP.dmul db (FP.ddiv (FP.dsub r1 (FP.dmul dm r0)) dc)))), .second, .val (.int (2 : Int32))] [(.int (0 : Int32)), (.ref ra), (.ref b93)])) rfl rfl (hb hby d6_174) _ ?_
    show own_S p e below T133 (mkF m 175 _ [(.int g0), (.ref b93)]) _
    refine XS.dload X133.here hx rfl (hb hby d6_175) rfl ?_
    show own_S p e below T133 (mkF m 177 _ [(.double (FP.dsub r0 (FP.dmul db (FP.ddiv (FP.dsub r1 (FP.dmul dm r0)) dc)))), (.int g0), (.ref b93)]) _
    refine XS.aload X133.here hx rfl (hb hby d6_177) rfl rfl ?_
    show own_S p e below T133 (mkF m 179 _ [(.ref ca), (.double (FP.dsub r0 (FP.dmul db (FP.ddiv (FP.dsub r1 (FP.dmul dm r0)) dc)))), (.int g0), (.ref b93)]) _
    refine XS.iconst X133.here hx rfl (hb hby d6_179) ?_
    show own_S p e below T133 (mkF m 180 _ [(.int (0 : Int32)), (.ref ca), (.double (FP.dsub r0 (FP.dmul db (FP.ddiv (FP.dsub r1 (FP.dmul dm r0)) dc)))), (.int g0), (.ref b93)]) _
    exact kt
  obtain ⟨cl156, Ar156, qq156, S156, M156, H156, GG156⟩ := id f144
  have hin156 : ¬ ((0 : Int32) < 0 ∨ cl156.slots.size ≤ ((0 : Int32)).toNatClampNeg) := inb_of S156 ⟨by decide, by decide⟩
  have hat156 : cl156.slots[((0 : Int32)).toNatClampNeg]? = some (.double da) := Has.at H156 hin156 rfl
  have K157 : own_K p e below G0 T133 (mkF m 182 #[.val (.ref a0), .val (.ref a1), .val (.ref b3), .val (.ref b93), .val (.int (0 : Int32)), .val (.ref ra), .val (.ref ca), .val (.double (FP.dsub r0 (FP.dmul db (FP.ddiv (FP.dsub r1 (FP.dmul dm r0)) dc)))), .second, .val (.int (2 : Int32))] [(.double (FP.ddiv (FP.dsub r0 (FP.dmul db (FP.ddiv (FP.dsub r1 (FP.dmul dm r0)) dc))) da)), (.int g0), (.ref b93)]) := by
    intro t kt
    refine K155 t ?_
    refine X133.daload hx (j := (0 : Int32)) (v := (.double da)) (by rw [e133]; exact (Ar156).1) (State.isArrayOf_alike hZ.alike (Ar156).2.1) (Ar156).2.2 hin156 hat156 (g := (mkF m 180 #[.val (.ref a0), .val (.ref a1), .val (.ref b3), .val (.ref b93), .val (.int (0 : Int32)), .val (.ref ra), .val (.ref ca), .val (.double (FP.dsub r0 (FP.dmul db (FP.ddiv (FP.dsub r1 (FP.dmul dm r0)) dc)))), .second, .val (.int (2 : Int32))] [(.int (0 : Int32)), (.ref ca), (.double (FP.dsub r0 (FP.dmul db (FP.ddiv (FP.dsub r1 (FP.dmul dm r0)) dc)))), (.int g0), (.ref b93)])) rfl rfl (hb hby d6_180) _ ?_
    show own_S p e below T133 (mkF m 181 _ [(.double da), (.double (FP.dsub r0 (FP.dmul db (FP.ddiv (FP.dsub r1 (FP.dmul dm r0)) dc)))), (.int g0), (.ref b93)]) _
    refine XS.ddivS X133.here hx rfl (hb hby d6_181) rfl (own_V_nonan qy) rfl ?_
    show own_S p e below T133 (mkF m 182 _ [(.double (FP.ddiv (FP.dsub r0 (FP.dmul db (FP.ddiv (FP.dsub r1 (FP.dmul dm r0)) dc))) da)), (.int g0), (.ref b93)]) _
    exact kt
  obtain ⟨cl158, Ar158, qq158, S158, M158, H158, GG158⟩ := id VL123
  have hin158 := inb_of S158 (own_in3 hR0)
  obtain ⟨T159, h159, X159, e159, W159, st159⟩ := stD X133 hx hZ e133 Ar158 (j := g0) hin158 (g := (mkF m 182 #[.val (.ref a0), .val (.ref a1), .val (.ref b3), .val (.ref b93), .val (.int (0 : Int32)), .val (.ref ra), .val (.ref ca), .val (.double (FP.dsub r0 (FP.dmul db (FP.ddiv (FP.dsub r1 (FP.dmul dm r0)) dc)))), .second, .val (.int (2 : Int32))] [(.double (FP.ddiv (FP.dsub r0 (FP.dmul db (FP.ddiv (FP.dsub r1 (FP.dmul dm r0)) dc))) da)), (.int g0), (.ref b93)])) rfl rfl (hb hby d6_182)
  have K159 : own_K p e below G0 T159 (mkF m 183 #[.val (.ref a0), .val (.ref a1), .val (.ref b3), .val (.ref b93), .val (.int (0 : Int32)), .val (.ref ra), .val (.ref ca), .val (.double (FP.dsub r0 (FP.dmul db (FP.ddiv (FP.dsub r1 (FP.dmul dm r0)) dc)))), .second, .val (.int (2 : Int32))] []) := fun t kt => K157 t (st159 _ kt)
  have Z159 : n0 ≤ h159.size := Nat.le_trans Z123 (Keep.of_wr W159).1
  have VL159 : Arv Z h159 b93 k93 .double (3 : Int32) (own_l3 (own_u g0 (.double (FP.ddiv (FP.dsub r0 (FP.dmul db (FP.ddiv (FP.dsub r1 (FP.dmul dm r0)) dc))) da)) (own_u g1 (.double (FP.ddiv (FP.dsub r1 (FP.dmul dm r0)) dc)) (fun _ => (.double 0))))) (.double 0) := by
    rw [← own_s3 hR0]
    exact Arv.set Ar158 qq158 S158 M158 H158 GG158 rfl W159 (g0).toNatClampNeg rfl (own_n3 hR0)
  have N159 := Fr.snoc X159 N123 gn93
  have K160 : own_K p e below G0 T159 (mkF m 186 #[.val (.ref a0), .val (.ref a1), .val (.ref b3), .val (.ref b93), .val (.int ((0 : Int32) + (-1 : Int32))), .val (.ref ra), .val (.ref ca), .val (.double (FP.dsub r0 (FP.dmul db (FP.ddiv (FP.dsub r1 (FP.dmul dm r0)) dc)))), .second, .val (.int (2 : Int32))] []) := by
    intro t kt
    refine K159 t ?_
    refine XS.iinc X159.here hx rfl (hb hby d6_183) rfl (l' := #[.val (.ref a0), .val (.ref a1), .val (.ref b3), .val (.ref b93), .val (.int ((0 : Int32) + (-1 : Int32))), .val (.ref ra), .val (.ref ca), .val (.double (FP.dsub r0 (FP.dmul db (FP.ddiv (FP.dsub r1 (FP.dmul dm r0)) dc)))), .second, .val (.int (2 : Int32))]) rfl ?_
    show own_S p e below T159 (mkF m 186 _ []) _
    exact kt
  rw [show ((0 : Int32) + (-1 : Int32)) = (-1 : Int32) from by decide] at K160
  have K161 : own_K p e below G0 T159 (mkF m 190 #[.val (.ref a0), .val (.ref a1), .val (.ref b3), .val (.ref b93), .val (.int (-1 : Int32)), .val (.ref ra), .val (.ref ca), .val (.double (FP.dsub r0 (FP.dmul db (FP.ddiv (FP.dsub r1 (FP.dmul dm r0)) dc)))), .second, .val (.int (2 : Int32))] [(.ref b93)]) := by
    intro t kt
    refine K160 t ?_
    refine XS.goto X159.here hx rfl (pc0 := 186) (pc' := 106) rfl (hb hby d6_186) (by decide) (by decide) ?_
    show own_S p e below T159 (mkF m 106 _ []) _
    refine XS.iload X159.here hx rfl (hb hby d6_106) rfl ?_
    show own_S p e below T159 (mkF m 108 _ [(.int (-1 : Int32))]) _
    refine XS.ifYes X159.here hx rfl (pc0 := 108) (pc' := 189) rfl (hb hby d6_108) rfl ((if0 _ _).trans (tlt (by decide)).1) (by decide) (by decide) ?_
    show own_S p e below T159 (mkF m 189 _ []) _
    refine XS.aloadN X159.here hx rfl (hb hby d6_189) rfl rfl ?_
    show own_S p e below T159 (mkF m 190 _ [(.ref b93)]) _
    exact kt
  have KQ162_0 := Keep.refl h0 []
  have sz162_3 := Nat.le_trans KQ162_0.1 (Nat.le_of_eq g3.symm)
  have KQ162_1 := KQ162_0.ext E3
  have KQ162_2 := KQ162_1.wr W24 (Or.inr sz162_3)
  have KQ162_3 := KQ162_2.wr W71 (Or.inr sz162_3)
  have sz162_93 := Nat.le_trans KQ162_3.1 (Nat.le_of_eq g93.symm)
  have KQ162_4 := KQ162_3.ext E93
  have KQ162_5 := KQ162_4.wr W123 (Or.inr sz162_93)
  have KQ162_6 := KQ162_5.wr W159 (Or.inr sz162_93)
  obtain ⟨fs, hr, hrun, hended, hW, hsame⟩ := X159.leave (v := some (.ref b93)) (fun h => by rw [Bd.returns] at h; cases h)
  refine ⟨_, _, ?_, hrun, hended, _, _, rfl, ?_, ⟨_, rfl⟩, hW, hsame.mono (by decide) (by decide)⟩
  · rw [← hG0]
    refine K161 _ ?_
    exact retOut X159 hx (t := (.array .double)) Bd.returns rfl (Or.inr (Or.inr (Or.inr (Or.inr ⟨rfl, rfl, rfl⟩)))) (hb hby d6_190) hr
  · show Q6_10 Z a0 a1 rb ml ln pe pu pc ra ca rc cc kr km kl ke ku kc kq rd fr fm fl fq x2 x3 x4 ea eb g0 g1 gf r0 r1 da db dc dd R0 R1 M A A' B C C' D q1 q2 k1 k2 dm h0 n0 _ T159.heap _
    rw [e159]
    exact ⟨b93, k93, (FP.ddiv (FP.dsub r0 (FP.dmul db (FP.ddiv (FP.dsub r1 (FP.dmul dm r0)) dc))) da), (FP.ddiv (FP.dsub r1 (FP.dmul dm r0)) dc), rfl, N159, KQ162_6, VL159, qx, qy⟩
theorem rm6_1 (l : Launch) (Z : State) (aa : Array Value) (hw : ∀ d ∈ tables_1, d.before aa Z = true) (ws : List Jvm.Cond) (a0 : Addr) (a1 : Addr) (wb : Bool) (rb : Addr) (ml : Addr) (ln : Addr) (pe : Addr) (pu : Addr) (pc : Addr) (ra : Addr) (ca : Addr) (rc : Addr) (cc : Addr) (kr : ClassId) (km : ClassId) (kl : ClassId) (ke : ClassId) (ku : ClassId) (kc : ClassId) (kq : ClassId) (rd : Int64) (fr : Int32 → Value) (fm : Int32 → Value) (fl : Int32 → Value) (fq : Int32 → Value) (x2 : Value) (x3 : Value) (x4 : Value) (ea : Int32) (eb : Int32) (g0 : Int32) (g1 : Int32) (gf : Int32) (r0 : UInt64) (r1 : UInt64) (da : UInt64) (db : UInt64) (dc : UInt64) (dd : UInt64) (R0 : Int) (R1 : Int) (M : Int) (A : Int) (A' : Int) (B : Int) (C : Int) (C' : Int) (D : Int) (q1 : Addr) (q2 : Addr) (k1 : ClassId) (k2 : ClassId) (dm : UInt64) (h0 : Heap) (n0 : Nat) (Z0 : n0 ≤ h0.size) (FA : own_Fac Z h0 a0 rb ml ln pe pu pc kr km kl ke ku kc (3 : Int32) (2 : Int32) rd (own_l3 fr) (own_l3 fm) (own_l3 fl) [(.int ea), (.int eb), x2] [(.ref ra), (.ref rc), x3] [(.ref ca), (.ref cc), x4]) (V_q : Arv Z h0 a1 kq .double (3 : Int32) (own_l3 fq) (.double 0)) (hq0 : fq ea = (.double r0)) (hq1 : fq eb = (.double r1)) (hRa : own_R ea) (hRb : own_R eb) (hR0 : own_R g0) (hR1 : own_R g1) (hRf : own_R gf) (n01 : g0 ≠ g1) (n0f : g0 ≠ gf) (n1f : g1 ≠ gf) (hl0 : fl ea = (.int (0 : Int32))) (v0 : own_V 0 R0 r0) (v1 : own_V 0 R1 r1) (va : own_V 0 A da) (vb : own_V 0 B db) (vc : own_V 0 C dc) (vd : own_V 0 D dd) (aa' : A * A' = 8) (cc' : C * C' = 8) (ba : A'.natAbs ≤ 8) (bc : C'.natAbs ≤ 8) (bb : B.natAbs ≤ 8) (bm : M.natAbs ≤ 8) (b0 : R0.natAbs ≤ 2147483648) (b1 : R1.natAbs ≤ 2147483648) (RW : own_Rows Z h0 wb ra ca rc cc g0 g1 gf da db dc dd) (hl1 : fl eb = (.int (1 : Int32))) (hfr : fr eb = (.ref q1)) (hfm : fm eb = (.ref q2)) (V_q1 : Arv Z h0 q1 k1 .int (4 : Int32) [(.int (0 : Int32)), (.int (0 : Int32)), (.int (0 : Int32)), (.int (0 : Int32))] (.int (0 : Int32))) (V_q2 : Arv Z h0 q2 k2 .double (4 : Int32) [(.double dm), (.double 0), (.double 0), (.double 0)] (.double 0)) (vm : own_V 0 M dm) :
    MetFree l (⟨"com/example/sondage/sondage/inference/Factorization", "solve", "([D)[D"⟩ : MethodName) (head1 (Jvm.Cond.code (⟨"com/example/sondage/sondage/inference/Factorization", "solve", "([D)[D"⟩ : MethodName) prog_18_method_7_code 10 (some (.array .double)) :: ws) ({ frames := 0, cells := 2, slots := 5, locals := 0 } : Room)) (fun a U => a = #[(.ref a0), (.ref a1)] ∧ Z.Warmed39 U.vm ∧ U.heap = h0) (fun _ _ _ _ _ => True) (fun _ U o U' => ∃ v L, o = .returned v ∧ Q6_11 Z a0 a1 rb ml ln pe pu pc ra ca rc cc kr km kl ke ku kc kq rd fr fm fl fq x2 x3 x4 ea eb g0 g1 gf r0 r1 da db dc dd R0 R1 M A A' B C C' D q1 q2 k1 k2 dm h0 n0 v U'.heap L ∧ FrameEnd U o U' L ({ frames := 0, cells := 2, slots := 5, locals := 0 } : Room).cells ({ frames := 0, cells := 2, slots := 5, locals := 0 } : Room).slots) := by
  cases wb with
  | true => exact rm6_11 l Z aa hw ws a0 a1 rb ml ln pe pu pc ra ca rc cc kr km kl ke ku kc kq rd fr fm fl fq x2 x3 x4 ea eb g0 g1 gf r0 r1 da db dc dd R0 R1 M A A' B C C' D q1 q2 k1 k2 dm h0 n0 Z0 FA V_q hq0 hq1 hRa hRb hR0 hR1 hRf n01 n0f n1f hl0 v0 v1 va vb vc vd aa' cc' ba bc bb bm b0 b1 RW hl1 hfr hfm V_q1 V_q2 vm
  | false => exact rm6_10 l Z aa hw ws a0 a1 rb ml ln pe pu pc ra ca rc cc kr km kl ke ku kc kq rd fr fm fl fq x2 x3 x4 ea eb g0 g1 gf r0 r1 da db dc dd R0 R1 M A A' B C C' D q1 q2 k1 k2 dm h0 n0 Z0 FA V_q hq0 hq1 hRa hRb hR0 hR1 hRf n01 n0f n1f hl0 v0 v1 va vb vc vd aa' cc' ba bc bb bm b0 b1 RW hl1 hfr hfm V_q1 V_q2 vm
theorem ef_rm6_01 (m : MethodId) (a0 : Addr) (a1 : Addr) : entryFrame m #[(.ref a0), (.ref a1)] 10 = (mkF m 0 #[.val (.ref a0), .val (.ref a1), .unset, .unset, .unset, .unset, .unset, .unset, .unset, .unset] []) := by first | (simp [entryFrame, mkF, argsToLocals, Value.category]; done) | rfl
def Q6_01 (Z : State) (a0 : Addr) (a1 : Addr) (rb : Addr) (ml : Addr) (ln : Addr) (pe : Addr) (pu : Addr) (pc : Addr) (ra : Addr) (ca : Addr) (rc : Addr) (cc : Addr) (kr : ClassId) (km : ClassId) (kl : ClassId) (ke : ClassId) (ku : ClassId) (kc : ClassId) (kq : ClassId) (rd : Int64) (fr : Int32 → Value) (fm : Int32 → Value) (fl : Int32 → Value) (fq : Int32 → Value) (x2 : Value) (x3 : Value) (x4 : Value) (ea : Int32) (eb : Int32) (g0 : Int32) (g1 : Int32) (gf : Int32) (r0 : UInt64) (r1 : UInt64) (da : UInt64) (db : UInt64) (dc : UInt64) (dd : UInt64) (R0 : Int) (R1 : Int) (M : Int) (A : Int) (A' : Int) (B : Int) (C : Int) (C' : Int) (D : Int) (h0 : Heap) (n0 : Nat) (v : Option Value) (h : Heap) (L : List Loc) : Prop := ∃ (r : Addr) (kx : ClassId) (x0 x1 : UInt64), v = some (.ref r) ∧ Fr n0 L ∧ Keep h0 h [] ∧ Arv Z h r kx .double (3 : Int32) (own_l3 (own_u g0 (.double x0) (own_u g1 (.double x1) (fun _ => (.double 0))))) (.double 0) ∧ own_V 3 ((R1 - M * R0) * C') x1 ∧ own_V 6 ((R0 * 8 - B * ((R1 - M * R0) * C')) * A') x0
set_option maxRecDepth 65536 in
set_option maxHeartbeats 40000000 in
theorem rm6_01 (l : Launch) (Z : State) (aa : Array Value) (hw : ∀ d ∈ tables_1, d.before aa Z = true) (ws : List Jvm.Cond) (a0 : Addr) (a1 : Addr) (rb : Addr) (ml : Addr) (ln : Addr) (pe : Addr) (pu : Addr) (pc : Addr) (ra : Addr) (ca : Addr) (rc : Addr) (cc : Addr) (kr : ClassId) (km : ClassId) (kl : ClassId) (ke : ClassId) (ku : ClassId) (kc : ClassId) (kq : ClassId) (rd : Int64) (fr : Int32 → Value) (fm : Int32 → Value) (fl : Int32 → Value) (fq : Int32 → Value) (x2 : Value) (x3 : Value) (x4 : Value) (ea : Int32) (eb : Int32) (g0 : Int32) (g1 : Int32) (gf : Int32) (r0 : UInt64) (r1 : UInt64) (da : UInt64) (db : UInt64) (dc : UInt64) (dd : UInt64) (R0 : Int) (R1 : Int) (M : Int) (A : Int) (A' : Int) (B : Int) (C : Int) (C' : Int) (D : Int) (h0 : Heap) (n0 : Nat) (Z0 : n0 ≤ h0.size) (FA : own_Fac Z h0 a0 rb ml ln pe pu pc kr km kl ke ku kc (3 : Int32) (2 : Int32) rd (own_l3 fr) (own_l3 fm) (own_l3 fl) [(.int ea), (.int eb), x2] [(.ref ra), (.ref rc), x3] [(.ref ca), (.ref cc), x4]) (V_q : Arv Z h0 a1 kq .double (3 : Int32) (own_l3 fq) (.double 0)) (hq0 : fq ea = (.double r0)) (hq1 : fq eb = (.double r1)) (hRa : own_R ea) (hRb : own_R eb) (hR0 : own_R g0) (hR1 : own_R g1) (hRf : own_R gf) (n01 : g0 ≠ g1) (n0f : g0 ≠ gf) (n1f : g1 ≠ gf) (hl0 : fl ea = (.int (0 : Int32))) (v0 : own_V 0 R0 r0) (v1 : own_V 0 R1 r1) (va : own_V 0 A da) (vb : own_V 0 B db) (vc : own_V 0 C dc) (vd : own_V 0 D dd) (aa' : A * A' = 8) (cc' : C * C' = 8) (ba : A'.natAbs ≤ 8) (bc : C'.natAbs ≤ 8) (bb : B.natAbs ≤ 8) (bm : M.natAbs ≤ 8) (b0 : R0.natAbs ≤ 2147483648) (b1 : R1.natAbs ≤ 2147483648) (RW : own_Rows Z h0 true ra ca rc cc g0 g1 gf da db dc dd) (hl1 : fl eb = (.int (0 : Int32))) (hM : M = 0) :
    MetFree l (⟨"com/example/sondage/sondage/inference/Factorization", "solve", "([D)[D"⟩ : MethodName) (head1 (Jvm.Cond.code (⟨"com/example/sondage/sondage/inference/Factorization", "solve", "([D)[D"⟩ : MethodName) prog_18_method_7_code 10 (some (.array .double)) :: ws) ({ frames := 0, cells := 2, slots := 5, locals := 0 } : Room)) (fun a U => a = #[(.ref a0), (.ref a1)] ∧ Z.Warmed39 U.vm ∧ U.heap = h0) (fun _ _ _ _ _ => True) (fun _ U o U' => ∃ v L, o = .returned v ∧ Q6_01 Z a0 a1 rb ml ln pe pu pc ra ca rc cc kr km kl ke ku kc kq rd fr fm fl fq x2 x3 x4 ea eb g0 g1 gf r0 r1 da db dc dd R0 R1 M A A' B C C' D h0 n0 v U'.heap L ∧ FrameEnd U o U' L ({ frames := 0, cells := 2, slots := 5, locals := 0 } : Room).cells ({ frames := 0, cells := 2, slots := 5, locals := 0 } : Room).slots) := by
  refine MetFree.of_bodySF (plainFor_of_name pn_com_example_sondage_sondage_inference_Factorization) hisR ?_
  intro p e s m args below meth c s₁ Bd hml0 hP hK
  obtain ⟨rfl, hZ, hh⟩ := hP
  have hx := Bd.exec
  have hby := Bd.bytes
  have hml : c.maxLocals = 10 := hml0
  have hown : s.vm.findClass "com/example/sondage/sondage/inference/Factorization" = some m.cls := findClass_of_methodNamed Bd.named
  have hnm := (name_of_methodNamed Bd.named Bd.method).1
  have X0 : Stand p l e ({ frames := 0, cells := 2, slots := 5, locals := 0 } : Room) s m #[(.ref a0), (.ref a1)] below meth c s₁ [] 0 0 := Stand.of_body Bd
  have e0 : s₁.heap = h0 := by rw [← hh, Bd.state]; rfl
  have N0 := Fr.nil n0
  obtain ⟨G0, hG0⟩ : ∃ G, G = s₁.setTop (entryFrame m #[(.ref a0), (.ref a1)] 10) := ⟨_, rfl⟩
  have K0 : own_K p e below G0 s₁ (mkF m 0 #[.val (.ref a0), .val (.ref a1), .unset, .unset, .unset, .unset, .unset, .unset, .unset, .unset] []) := fun t k => by rw [hG0]; exact castTop (ef_rm6_01 m a0 a1) k
  obtain ⟨fc_0, fc_1, fc_2, fc_3, fc_4, fc_5, fc_6, fc_7, fc_8, fc_9, fc_10, fc_11, fc_12, fc_13, fc_14, fc_15⟩ := id FA
  obtain ⟨kh1, kh2, kh3, kh4, V_ra, V_ca, V_rc, V_cc⟩ := RW
  have qb : own_V 0 (R1 - M * R0) r1 := own_V_eq v1 (by rw [hM]; omega)
  have bv := own_numV b0 b1 bm
  obtain ⟨qc, qd⟩ := own_V_z0 (k := 0) (by omega) qb vd own_V_0 (by omega)
  have qx := own_numX qd vc cc' bc bv
  have bn := own_ab bv bc
  obtain ⟨qe, qf, qg⟩ := own_numT v0 vb qx b0 bb (by omega)
  obtain ⟨qc2, qh⟩ := own_V_z0 (k := 3) (by omega) qf vd own_V_0 (by omega)
  have qy := own_numY qh va aa' ba qg
  have K1 : own_K p e below G0 s₁ (mkF m 1 #[.val (.ref a0), .val (.ref a1), .unset, .unset, .unset, .unset, .unset, .unset, .unset, .unset] [(.ref a0)]) := by
    intro t kt
    refine K0 t ?_
    refine XS.aloadN X0.here hx rfl (hb hby d6_0) rfl rfl ?_
    show own_S p e below s₁ (mkF m 1 _ [(.ref a0)]) _
    exact kt
  obtain ⟨T2, X2, e2, st2⟩ := getF X0 hx hZ hown (host := "") (Or.inl (hw _ (List.mem_of_getElem? (i := 43) rfl))) Via.refl e0 fc_2 (g := (mkF m 1 #[.val (.ref a0), .val (.ref a1), .unset, .unset, .unset, .unset, .unset, .unset, .unset, .unset] [(.ref a0)])) rfl rfl (hb hby d6_1)
  have K2 : own_K p e below G0 T2 (mkF m 4 #[.val (.ref a0), .val (.ref a1), .unset, .unset, .unset, .unset, .unset, .unset, .unset, .unset] [(.int (2 : Int32))]) := fun t kt => K1 t (st2 _ kt)
  obtain ⟨T3, h3, k3, X3, e3, E3, A3, st3⟩ := newP X2 hx hZ (hw _ (List.mem_of_getElem? (i := 4) rfl)) e2 (g := (mkF m 4 #[.val (.ref a0), .val (.ref a1), .unset, .unset, .unset, .unset, .unset, .unset, .unset, .unset] [(.int (2 : Int32))])) rfl (hb hby d6_4) rfl (by decide) (cap := 2) (by decide) (by decide) (by decide) (by decide)
  obtain ⟨b3, g3⟩ : ∃ z, z = h0.size := ⟨_, rfl⟩
  rw [← g3] at A3 st3
  have V3 := Arv.new A3 (by decide)
  have gn3 : n0 ≤ b3 := Nat.le_trans Z0 (Nat.le_of_eq g3.symm)
  have Z3 : n0 ≤ h3.size := Nat.le_trans Z0 E3.1
  have K3 : own_K p e below G0 T3 (mkF m 6 #[.val (.ref a0), .val (.ref a1), .unset, .unset, .unset, .unset, .unset, .unset, .unset, .unset] [(.ref b3)]) := fun t kt => K2 t (st3 _ kt)
  have ne_a0_b3 : a0 ≠ b3 := Nat.ne_of_lt (Nat.lt_of_lt_of_le (fc_0).lt (Nat.le_of_eq g3.symm))
  have ne_rb_b3 : rb ≠ b3 := Nat.ne_of_lt (Nat.lt_of_lt_of_le (fc_10).lt (Nat.le_of_eq g3.symm))
  have ne_ml_b3 : ml ≠ b3 := Nat.ne_of_lt (Nat.lt_of_lt_of_le (fc_11).lt (Nat.le_of_eq g3.symm))
  have ne_ln_b3 : ln ≠ b3 := Nat.ne_of_lt (Nat.lt_of_lt_of_le (fc_12).lt (Nat.le_of_eq g3.symm))
  have ne_pe_b3 : pe ≠ b3 := Nat.ne_of_lt (Nat.lt_of_lt_of_le (fc_13).lt (Nat.le_of_eq g3.symm))
  have ne_pu_b3 : pu ≠ b3 := Nat.ne_of_lt (Nat.lt_of_lt_of_le (fc_14).lt (Nat.le_of_eq g3.symm))
  have ne_pc_b3 : pc ≠ b3 := Nat.ne_of_lt (Nat.lt_of_lt_of_le (fc_15).lt (Nat.le_of_eq g3.symm))
  have ne_a1_b3 : a1 ≠ b3 := Nat.ne_of_lt (Nat.lt_of_lt_of_le (V_q).lt (Nat.le_of_eq g3.symm))
  have ne_ra_b3 : ra ≠ b3 := Nat.ne_of_lt (Nat.lt_of_lt_of_le (V_ra).lt (Nat.le_of_eq g3.symm))
  have ne_ca_b3 : ca ≠ b3 := Nat.ne_of_lt (Nat.lt_of_lt_of_le (V_ca).lt (Nat.le_of_eq g3.symm))
  have ne_rc_b3 : rc ≠ b3 := Nat.ne_of_lt (Nat.lt_of_lt_of_le (V_rc).lt (Nat.le_of_eq g3.symm))
  have ne_cc_b3 : cc ≠ b3 := Nat.ne_of_lt (Nat.lt_of_lt_of_le (V_cc).lt (Nat.le_of_eq g3.symm))
  have VL3 : Arv Z h3 b3 k3 .double (2 : Int32) [(.double 0), (.double 0)] (.double 0) := V3.pad (pad_rep [] (.double 0) 2)
  have K4 : own_K p e below G0 T3 (mkF m 11 #[.val (.ref a0), .val (.ref a1), .val (.ref b3), .val (.int (0 : Int32)), .unset, .unset, .unset, .unset, .unset, .unset] [(.ref a0), (.int (0 : Int32))]) := by
    intro t kt
    refine K3 t ?_
    refine XS.astoreN X3.here hx rfl (hb hby d6_6) rfl rfl (l' := #[.val (.ref a0), .val (.ref a1), .val (.ref b3), .unset, .unset, .unset, .unset, .unset, .unset, .unset]) rfl ?_
    show own_S p e below T3 (mkF m 7 _ []) _
    refine XS.iconst X3.here hx rfl (hb hby d6_7) ?_
    show own_S p e below T3 (mkF m 8 _ [(.int (0 : Int32))]) _
    refine XS.istoreN X3.here hx rfl (hb hby d6_8) rfl (l' := #[.val (.ref a0), .val (.ref a1), .val (.ref b3), .val (.int (0 : Int32)), .unset, .unset, .unset, .unset, .unset, .unset]) rfl ?_
    show own_S p e below T3 (mkF m 9 _ []) _
    refine XS.iloadN X3.here hx rfl (hb hby d6_9) rfl ?_
    show own_S p e below T3 (mkF m 10 _ [(.int (0 : Int32))]) _
    refine XS.aloadN X3.here hx rfl (hb hby d6_10) rfl rfl ?_
    show own_S p e below T3 (mkF m 11 _ [(.ref a0), (.int (0 : Int32))]) _
    exact kt
  have f5 := (fc_2.ext E3)
  obtain ⟨T6, X6, e6, st6⟩ := getF X3 hx hZ hown (host := "") (Or.inl (hw _ (List.mem_of_getElem? (i := 43) rfl))) Via.refl e3 f5 (g := (mkF m 11 #[.val (.ref a0), .val (.ref a1), .val (.ref b3), .val (.int (0 : Int32)), .unset, .unset, .unset, .unset, .unset, .unset] [(.ref a0), (.int (0 : Int32))])) rfl rfl (hb hby d6_11)
  have K6 : own_K p e below G0 T6 (mkF m 14 #[.val (.ref a0), .val (.ref a1), .val (.ref b3), .val (.int (0 : Int32)), .unset, .unset, .unset, .unset, .unset, .unset] [(.int (2 : Int32)), (.int (0 : Int32))]) := fun t kt => K4 t (st6 _ kt)
  have K7 : own_K p e below G0 T6 (mkF m 18 #[.val (.ref a0), .val (.ref a1), .val (.ref b3), .val (.int (0 : Int32)), .unset, .unset, .unset, .unset, .unset, .unset] [(.ref a0)]) := by
    intro t kt
    refine K6 t ?_
    refine XS.icmpNo X6.here hx rfl (hb hby d6_14) rfl (tlt (by decide)).2.1 ?_
    show own_S p e below T6 (mkF m 17 _ []) _
    refine XS.aloadN X6.here hx rfl (hb hby d6_17) rfl rfl ?_
    show own_S p e below T6 (mkF m 18 _ [(.ref a0)]) _
    exact kt
  have f8 := (fc_7.ext E3)
  obtain ⟨T9, X9, e9, st9⟩ := getF X6 hx hZ hown (host := "") (Or.inl (hw _ (List.mem_of_getElem? (i := 32) rfl))) Via.refl e6 f8 (g := (mkF m 18 #[.val (.ref a0), .val (.ref a1), .val (.ref b3), .val (.int (0 : Int32)), .unset, .unset, .unset, .unset, .unset, .unset] [(.ref a0)])) rfl rfl (hb hby d6_18)
  have K9 : own_K p e below G0 T9 (mkF m 21 #[.val (.ref a0), .val (.ref a1), .val (.ref b3), .val (.int (0 : Int32)), .unset, .unset, .unset, .unset, .unset, .unset] [(.ref pe)]) := fun t kt => K7 t (st9 _ kt)
  have K10 : own_K p e below G0 T9 (mkF m 22 #[.val (.ref a0), .val (.ref a1), .val (.ref b3), .val (.int (0 : Int32)), .unset, .unset, .unset, .unset, .unset, .unset] [(.int (0 : Int32)), (.ref pe)]) := by
    intro t kt
    refine K9 t ?_
    refine XS.iloadN X9.here hx rfl (hb hby d6_21) rfl ?_
    show own_S p e below T9 (mkF m 22 _ [(.int (0 : Int32)), (.ref pe)]) _
    exact kt
  have f11 := (fc_13.ext E3)
  obtain ⟨cl12, Ar12, qq12, S12, M12, H12, GG12⟩ := id f11
  have hin12 : ¬ ((0 : Int32) < 0 ∨ cl12.slots.size ≤ ((0 : Int32)).toNatClampNeg) := inb_of S12 ⟨by decide, by decide⟩
  have hat12 : cl12.slots[((0 : Int32)).toNatClampNeg]? = some (.int ea) := Has.at H12 hin12 rfl
  have K13 : own_K p e below G0 T9 (mkF m 28 #[.val (.ref a0), .val (.ref a1), .val (.ref b3), .val (.int (0 : Int32)), .val (.int ea), .unset, .unset, .unset, .unset, .unset] [(.int ea), (.ref a1)]) := by
    intro t kt
    refine K10 t ?_
    refine X9.iaload hx (j := (0 : Int32)) (v := (.int ea)) (by rw [e9]; exact (Ar12).1) (State.isArrayOf_alike hZ.alike (Ar12).2.1) (Ar12).2.2 hin12 hat12 (g := (mkF m 22 #[.val (.ref a0), .val (.ref a1), .val (.ref b3), .val (.int (0 : Int32)), .unset, .unset, .unset, .unset, .unset, .unset] [(.int (0 : Int32)), (.ref pe)])) rfl rfl (hb hby d6_22) _ ?_
    show own_S p e below T9 (mkF m 23 _ [(.int ea)]) _
    refine XS.istore X9.here hx rfl (hb hby d6_23) rfl (l' := #[.val (.ref a0), .val (.ref a1), .val (.ref b3), .val (.int (0 : Int32)), .val (.int ea), .unset, .unset, .unset, .unset, .unset]) rfl ?_
    show own_S p e below T9 (mkF m 25 _ []) _
    refine XS.aloadN X9.here hx rfl (hb hby d6_25) rfl rfl ?_
    show own_S p e below T9 (mkF m 26 _ [(.ref a1)]) _
    refine XS.iload X9.here hx rfl (hb hby d6_26) rfl ?_
    show own_S p e below T9 (mkF m 28 _ [(.int ea), (.ref a1)]) _
    exact kt
  have f14 := (V_q.ext E3)
  obtain ⟨cl15, Ar15, qq15, S15, M15, H15, GG15⟩ := id f14
  have hin15 := inb_of S15 (own_in3 hRa)
  have hat15 : cl15.slots[(ea).toNatClampNeg]? = some (.double r0) := Has.at H15 hin15 ((own_g3 hRa).trans hq0)
  have K16 : own_K p e below G0 T9 (mkF m 37 #[.val (.ref a0), .val (.ref a1), .val (.ref b3), .val (.int (0 : Int32)), .val (.int ea), .val (.double r0), .second, .val (.int (0 : Int32)), .unset, .unset] [(.ref a0), (.int (0 : Int32))]) := by
    intro t kt
    refine K13 t ?_
    refine X9.daload hx (j := ea) (v := (.double r0)) (by rw [e9]; exact (Ar15).1) (State.isArrayOf_alike hZ.alike (Ar15).2.1) (Ar15).2.2 hin15 hat15 (g := (mkF m 28 #[.val (.ref a0), .val (.ref a1), .val (.ref b3), .val (.int (0 : Int32)), .val (.int ea), .unset, .unset, .unset, .unset, .unset] [(.int ea), (.ref a1)])) rfl rfl (hb hby d6_28) _ ?_
    show own_S p e below T9 (mkF m 29 _ [(.double r0)]) _
    refine XS.dstore X9.here hx rfl (hb hby d6_29) rfl (l' := #[.val (.ref a0), .val (.ref a1), .val (.ref b3), .val (.int (0 : Int32)), .val (.int ea), .val (.double r0), .second, .unset, .unset, .unset]) rfl ?_
    show own_S p e below T9 (mkF m 31 _ []) _
    refine XS.iconst X9.here hx rfl (hb hby d6_31) ?_
    show own_S p e below T9 (mkF m 32 _ [(.int (0 : Int32))]) _
    refine XS.istore X9.here hx rfl (hb hby d6_32) rfl (l' := #[.val (.ref a0), .val (.ref a1), .val (.ref b3), .val (.int (0 : Int32)), .val (.int ea), .val (.double r0), .second, .val (.int (0 : Int32)), .unset, .unset]) rfl ?_
    show own_S p e below T9 (mkF m 34 _ []) _
    refine XS.iload X9.here hx rfl (hb hby d6_34) rfl ?_
    show own_S p e below T9 (mkF m 36 _ [(.int (0 : Int32))]) _
    refine XS.aloadN X9.here hx rfl (hb hby d6_36) rfl rfl ?_
    show own_S p e below T9 (mkF m 37 _ [(.ref a0), (.int (0 : Int32))]) _
    exact kt
  have f17 := (fc_6.ext E3)
  obtain ⟨T18, X18, e18, st18⟩ := getF X9 hx hZ hown (host := "") (Or.inl (hw _ (List.mem_of_getElem? (i := 26) rfl))) Via.refl e9 f17 (g := (mkF m 37 #[.val (.ref a0), .val (.ref a1), .val (.ref b3), .val (.int (0 : Int32)), .val (.int ea), .val (.double r0), .second, .val (.int (0 : Int32)), .unset, .unset] [(.ref a0), (.int (0 : Int32))])) rfl rfl (hb hby d6_37)
  have K18 : own_K p e below G0 T18 (mkF m 40 #[.val (.ref a0), .val (.ref a1), .val (.ref b3), .val (.int (0 : Int32)), .val (.int ea), .val (.double r0), .second, .val (.int (0 : Int32)), .unset, .unset] [(.ref ln), (.int (0 : Int32))]) := fun t kt => K16 t (st18 _ kt)
  have K19 : own_K p e below G0 T18 (mkF m 42 #[.val (.ref a0), .val (.ref a1), .val (.ref b3), .val (.int (0 : Int32)), .val (.int ea), .val (.double r0), .second, .val (.int (0 : Int32)), .unset, .unset] [(.int ea), (.ref ln), (.int (0 : Int32))]) := by
    intro t kt
    refine K18 t ?_
    refine XS.iload X18.here hx rfl (hb hby d6_40) rfl ?_
    show own_S p e below T18 (mkF m 42 _ [(.int ea), (.ref ln), (.int (0 : Int32))]) _
    exact kt
  have f20 := (fc_12.ext E3)
  obtain ⟨cl21, Ar21, qq21, S21, M21, H21, GG21⟩ := id f20
  have hin21 := inb_of S21 (own_in3 hRa)
  have hat21 : cl21.slots[(ea).toNatClampNeg]? = some (.int (0 : Int32)) := Has.at H21 hin21 ((own_g3 hRa).trans hl0)
  have K22 : own_K p e below G0 T18 (mkF m 84 #[.val (.ref a0), .val (.ref a1), .val (.ref b3), .val (.int (0 : Int32)), .val (.int ea), .val (.double r0), .second, .val (.int (0 : Int32)), .unset, .unset] [(.double r0), (.int (0 : Int32)), (.ref b3)]) := by
    intro t kt
    refine K19 t ?_
    refine X18.iaload hx (j := ea) (v := (.int (0 : Int32))) (by rw [e18]; exact (Ar21).1) (State.isArrayOf_alike hZ.alike (Ar21).2.1) (Ar21).2.2 hin21 hat21 (g := (mkF m 42 #[.val (.ref a0), .val (.ref a1), .val (.ref b3), .val (.int (0 : Int32)), .val (.int ea), .val (.double r0), .second, .val (.int (0 : Int32)), .unset, .unset] [(.int ea), (.ref ln), (.int (0 : Int32))])) rfl rfl (hb hby d6_42) _ ?_
    show own_S p e below T18 (mkF m 43 _ [(.int (0 : Int32)), (.int (0 : Int32))]) _
    refine XS.icmpYes X18.here hx rfl (pc0 := 43) (pc' := 80) rfl (hb hby d6_43) rfl (flt (by decide)).2.1 (by decide) (by decide) ?_
    show own_S p e below T18 (mkF m 80 _ []) _
    refine XS.aloadN X18.here hx rfl (hb hby d6_80) rfl rfl ?_
    show own_S p e below T18 (mkF m 81 _ [(.ref b3)]) _
    refine XS.iloadN X18.here hx rfl (hb hby d6_81) rfl ?_
    show own_S p e below T18 (mkF m 82 _ [(.int (0 : Int32)), (.ref b3)]) _
    refine XS.dload X18.here hx rfl (hb hby d6_82) rfl ?_
    show own_S p e below T18 (mkF m 84 _ [(.double r0), (.int (0 : Int32)), (.ref b3)]) _
    exact kt
  obtain ⟨cl23, Ar23, qq23, S23, M23, H23, GG23⟩ := id VL3
  have hin23 : ¬ ((0 : Int32) < 0 ∨ cl23.slots.size ≤ ((0 : Int32)).toNatClampNeg) := inb_of S23 ⟨by decide, by decide⟩
  obtain ⟨T24, h24, X24, e24, W24, st24⟩ := stD X18 hx hZ e18 Ar23 (j := (0 : Int32)) hin23 (g := (mkF m 84 #[.val (.ref a0), .val (.ref a1), .val (.ref b3), .val (.int (0 : Int32)), .val (.int ea), .val (.double r0), .second, .val (.int (0 : Int32)), .unset, .unset] [(.double r0), (.int (0 : Int32)), (.ref b3)])) rfl rfl (hb hby d6_84)
  have K24 : own_K p e below G0 T24 (mkF m 85 #[.val (.ref a0), .val (.ref a1), .val (.ref b3), .val (.int (0 : Int32)), .val (.int ea), .val (.double r0), .second, .val (.int (0 : Int32)), .unset, .unset] []) := fun t kt => K22 t (st24 _ kt)
  have Z24 : n0 ≤ h24.size := Nat.le_trans Z3 (Keep.of_wr W24).1
  have VL24 : Arv Z h24 b3 k3 .double (2 : Int32) [(.double r0), (.double 0)] (.double 0) := Arv.set Ar23 qq23 S23 M23 H23 GG23 rfl W24 0 rfl (Nat.le_of_ble_eq_true rfl)
  have N24 := Fr.snoc X24 N0 gn3
  have K25 : own_K p e below G0 T24 (mkF m 88 #[.val (.ref a0), .val (.ref a1), .val (.ref b3), .val (.int ((0 : Int32) + (1 : Int32))), .val (.int ea), .val (.double r0), .second, .val (.int (0 : Int32)), .unset, .unset] []) := by
    intro t kt
    refine K24 t ?_
    refine XS.iinc X24.here hx rfl (hb hby d6_85) rfl (l' := #[.val (.ref a0), .val (.ref a1), .val (.ref b3), .val (.int ((0 : Int32) + (1 : Int32))), .val (.int ea), .val (.double r0), .second, .val (.int (0 : Int32)), .unset, .unset]) rfl ?_
    show own_S p e below T24 (mkF m 88 _ []) _
    exact kt
  rw [show ((0 : Int32) + (1 : Int32)) = (1 : Int32) from by decide] at K25
  have K26 : own_K p e below G0 T24 (mkF m 11 #[.val (.ref a0), .val (.ref a1), .val (.ref b3), .val (.int (1 : Int32)), .val (.int ea), .val (.double r0), .second, .val (.int (0 : Int32)), .unset, .unset] [(.ref a0), (.int (1 : Int32))]) := by
    intro t kt
    refine K25 t ?_
    refine XS.goto X24.here hx rfl (pc0 := 88) (pc' := 9) rfl (hb hby d6_88) (by decide) (by decide) ?_
    show own_S p e below T24 (mkF m 9 _ []) _
    refine XS.iloadN X24.here hx rfl (hb hby d6_9) rfl ?_
    show own_S p e below T24 (mkF m 10 _ [(.int (1 : Int32))]) _
    refine XS.aloadN X24.here hx rfl (hb hby d6_10) rfl rfl ?_
    show own_S p e below T24 (mkF m 11 _ [(.ref a0), (.int (1 : Int32))]) _
    exact kt
  have f27 := (f5.other W24 (Or.inl ne_a0_b3))
  obtain ⟨T28, X28, e28, st28⟩ := getF X24 hx hZ hown (host := "") (Or.inl (hw _ (List.mem_of_getElem? (i := 43) rfl))) Via.refl e24 f27 (g := (mkF m 11 #[.val (.ref a0), .val (.ref a1), .val (.ref b3), .val (.int (1 : Int32)), .val (.int ea), .val (.double r0), .second, .val (.int (0 : Int32)), .unset, .unset] [(.ref a0), (.int (1 : Int32))])) rfl rfl (hb hby d6_11)
  have K28 : own_K p e below G0 T28 (mkF m 14 #[.val (.ref a0), .val (.ref a1), .val (.ref b3), .val (.int (1 : Int32)), .val (.int ea), .val (.double r0), .second, .val (.int (0 : Int32)), .unset, .unset] [(.int (2 : Int32)), (.int (1 : Int32))]) := fun t kt => K26 t (st28 _ kt)
  have K29 : own_K p e below G0 T28 (mkF m 18 #[.val (.ref a0), .val (.ref a1), .val (.ref b3), .val (.int (1 : Int32)), .val (.int ea), .val (.double r0), .second, .val (.int (0 : Int32)), .unset, .unset] [(.ref a0)]) := by
    intro t kt
    refine K28 t ?_
    refine XS.icmpNo X28.here hx rfl (hb hby d6_14) rfl (tlt (by decide)).2.1 ?_
    show own_S p e below T28 (mkF m 17 _ []) _
    refine XS.aloadN X28.here hx rfl (hb hby d6_17) rfl rfl ?_
    show own_S p e below T28 (mkF m 18 _ [(.ref a0)]) _
    exact kt
  have f30 := (f8.other W24 (Or.inl ne_a0_b3))
  obtain ⟨T31, X31, e31, st31⟩ := getF X28 hx hZ hown (host := "") (Or.inl (hw _ (List.mem_of_getElem? (i := 32) rfl))) Via.refl e28 f30 (g := (mkF m 18 #[.val (.ref a0), .val (.ref a1), .val (.ref b3), .val (.int (1 : Int32)), .val (.int ea), .val (.double r0), .second, .val (.int (0 : Int32)), .unset, .unset] [(.ref a0)])) rfl rfl (hb hby d6_18)
  have K31 : own_K p e below G0 T31 (mkF m 21 #[.val (.ref a0), .val (.ref a1), .val (.ref b3), .val (.int (1 : Int32)), .val (.int ea), .val (.double r0), .second, .val (.int (0 : Int32)), .unset, .unset] [(.ref pe)]) := fun t kt => K29 t (st31 _ kt)
  have K32 : own_K p e below G0 T31 (mkF m 22 #[.val (.ref a0), .val (.ref a1), .val (.ref b3), .val (.int (1 : Int32)), .val (.int ea), .val (.double r0), .second, .val (.int (0 : Int32)), .unset, .unset] [(.int (1 : Int32)), (.ref pe)]) := by
    intro t kt
    refine K31 t ?_
    refine XS.iloadN X31.here hx rfl (hb hby d6_21) rfl ?_
    show own_S p e below T31 (mkF m 22 _ [(.int (1 : Int32)), (.ref pe)]) _
    exact kt
  have f33 := (f11.other W24 ne_pe_b3)
  obtain ⟨cl34, Ar34, qq34, S34, M34, H34, GG34⟩ := id f33
  have hin34 : ¬ ((1 : Int32) < 0 ∨ cl34.slots.size ≤ ((1 : Int32)).toNatClampNeg) := inb_of S34 ⟨by decide, by decide⟩
  have hat34 : cl34.slots[((1 : Int32)).toNatClampNeg]? = some (.int eb) := Has.at H34 hin34 rfl
  have K35 : own_K p e below G0 T31 (mkF m 28 #[.val (.ref a0), .val (.ref a1), .val (.ref b3), .val (.int (1 : Int32)), .val (.int eb), .val (.double r0), .second, .val (.int (0 : Int32)), .unset, .unset] [(.int eb), (.ref a1)]) := by
    intro t kt
    refine K32 t ?_
    refine X31.iaload hx (j := (1 : Int32)) (v := (.int eb)) (by rw [e31]; exact (Ar34).1) (State.isArrayOf_alike hZ.alike (Ar34).2.1) (Ar34).2.2 hin34 hat34 (g := (mkF m 22 #[.val (.ref a0), .val (.ref a1), .val (.ref b3), .val (.int (1 : Int32)), .val (.int ea), .val (.double r0), .second, .val (.int (0 : Int32)), .unset, .unset] [(.int (1 : Int32)), (.ref pe)])) rfl rfl (hb hby d6_22) _ ?_
    show own_S p e below T31 (mkF m 23 _ [(.int eb)]) _
    refine XS.istore X31.here hx rfl (hb hby d6_23) rfl (l' := #[.val (.ref a0), .val (.ref a1), .val (.ref b3), .val (.int (1 : Int32)), .val (.int eb), .val (.double r0), .second, .val (.int (0 : Int32)), .unset, .unset]) rfl ?_
    show own_S p e below T31 (mkF m 25 _ []) _
    refine XS.aloadN X31.here hx rfl (hb hby d6_25) rfl rfl ?_
    show own_S p e below T31 (mkF m 26 _ [(.ref a1)]) _
    refine XS.iload X31.here hx rfl (hb hby d6_26) rfl ?_
    show own_S p e below T31 (mkF m 28 _ [(.int eb), (.ref a1)]) _
    exact kt
  have f36 := (f14.other W24 ne_a1_b3)
  obtain ⟨cl37, Ar37, qq37, S37, M37, H37, GG37⟩ := id f36
  have hin37 := inb_of S37 (own_in3 hRb)
  have hat37 : cl37.slots[(eb).toNatClampNeg]? = some (.double r1) := Has.at H37 hin37 ((own_g3 hRb).trans hq1)
  have K38 : own_K p e below G0 T31 (mkF m 37 #[.val (.ref a0), .val (.ref a1), .val (.ref b3), .val (.int (1 : Int32)), .val (.int eb), .val (.double r1), .second, .val (.int (0 : Int32)), .unset, .unset] [(.ref a0), (.int (0 : Int32))]) := by
    intro t kt
    refine K35 t ?_
    refine X31.daload hx (j := eb) (v := (.double r1)) (by rw [e31]; exact (Ar37).1) (State.isArrayOf_alike hZ.alike (Ar37).2.1) (Ar37).2.2 hin37 hat37 (g := (mkF m 28 #[.val (.ref a0), .val (.ref a1), .val (.ref b3), .val (.int (1 : Int32)), .val (.int eb), .val (.double r0), .second, .val (.int (0 : Int32)), .unset, .unset] [(.int eb), (.ref a1)])) rfl rfl (hb hby d6_28) _ ?_
    show own_S p e below T31 (mkF m 29 _ [(.double r1)]) _
    refine XS.dstore X31.here hx rfl (hb hby d6_29) rfl (l' := #[.val (.ref a0), .val (.ref a1), .val (.ref b3), .val (.int (1 : Int32)), .val (.int eb), .val (.double r1), .second, .val (.int (0 : Int32)), .unset, .unset]) rfl ?_
    show own_S p e below T31 (mkF m 31 _ []) _
    refine XS.iconst X31.here hx rfl (hb hby d6_31) ?_
    show own_S p e below T31 (mkF m 32 _ [(.int (0 : Int32))]) _
    refine XS.istore X31.here hx rfl (hb hby d6_32) rfl (l' := #[.val (.ref a0), .val (.ref a1), .val (.ref b3), .val (.int (1 : Int32)), .val (.int eb), .val (.double r1), .second, .val (.int (0 : Int32)), .unset, .unset]) rfl ?_
    show own_S p e below T31 (mkF m 34 _ []) _
    refine XS.iload X31.here hx rfl (hb hby d6_34) rfl ?_
    show own_S p e below T31 (mkF m 36 _ [(.int (0 : Int32))]) _
    refine XS.aloadN X31.here hx rfl (hb hby d6_36) rfl rfl ?_
    show own_S p e below T31 (mkF m 37 _ [(.ref a0), (.int (0 : Int32))]) _
    exact kt
  have f39 := (f17.other W24 (Or.inl ne_a0_b3))
  obtain ⟨T40, X40, e40, st40⟩ := getF X31 hx hZ hown (host := "") (Or.inl (hw _ (List.mem_of_getElem? (i := 26) rfl))) Via.refl e31 f39 (g := (mkF m 37 #[.val (.ref a0), .val (.ref a1), .val (.ref b3), .val (.int (1 : Int32)), .val (.int eb), .val (.double r1), .second, .val (.int (0 : Int32)), .unset, .unset] [(.ref a0), (.int (0 : Int32))])) rfl rfl (hb hby d6_37)
  have K40 : own_K p e below G0 T40 (mkF m 40 #[.val (.ref a0), .val (.ref a1), .val (.ref b3), .val (.int (1 : Int32)), .val (.int eb), .val (.double r1), .second, .val (.int (0 : Int32)), .unset, .unset] [(.ref ln), (.int (0 : Int32))]) := fun t kt => K38 t (st40 _ kt)
  have K41 : own_K p e below G0 T40 (mkF m 42 #[.val (.ref a0), .val (.ref a1), .val (.ref b3), .val (.int (1 : Int32)), .val (.int eb), .val (.double r1), .second, .val (.int (0 : Int32)), .unset, .unset] [(.int eb), (.ref ln), (.int (0 : Int32))]) := by
    intro t kt
    refine K40 t ?_
    refine XS.iload X40.here hx rfl (hb hby d6_40) rfl ?_
    show own_S p e below T40 (mkF m 42 _ [(.int eb), (.ref ln), (.int (0 : Int32))]) _
    exact kt
  have f42 := (f20.other W24 ne_ln_b3)
  obtain ⟨cl43, Ar43, qq43, S43, M43, H43, GG43⟩ := id f42
  have hin43 := inb_of S43 (own_in3 hRb)
  have hat43 : cl43.slots[(eb).toNatClampNeg]? = some (.int (0 : Int32)) := Has.at H43 hin43 ((own_g3 hRb).trans hl1)
  have K44 : own_K p e below G0 T40 (mkF m 84 #[.val (.ref a0), .val (.ref a1), .val (.ref b3), .val (.int (1 : Int32)), .val (.int eb), .val (.double r1), .second, .val (.int (0 : Int32)), .unset, .unset] [(.double r1), (.int (1 : Int32)), (.ref b3)]) := by
    intro t kt
    refine K41 t ?_
    refine X40.iaload hx (j := eb) (v := (.int (0 : Int32))) (by rw [e40]; exact (Ar43).1) (State.isArrayOf_alike hZ.alike (Ar43).2.1) (Ar43).2.2 hin43 hat43 (g := (mkF m 42 #[.val (.ref a0), .val (.ref a1), .val (.ref b3), .val (.int (1 : Int32)), .val (.int eb), .val (.double r1), .second, .val (.int (0 : Int32)), .unset, .unset] [(.int eb), (.ref ln), (.int (0 : Int32))])) rfl rfl (hb hby d6_42) _ ?_
    show own_S p e below T40 (mkF m 43 _ [(.int (0 : Int32)), (.int (0 : Int32))]) _
    refine XS.icmpYes X40.here hx rfl (pc0 := 43) (pc' := 80) rfl (hb hby d6_43) rfl (flt (by decide)).2.1 (by decide) (by decide) ?_
    show own_S p e below T40 (mkF m 80 _ []) _
    refine XS.aloadN X40.here hx rfl (hb hby d6_80) rfl rfl ?_
    show own_S p e below T40 (mkF m 81 _ [(.ref b3)]) _
    refine XS.iloadN X40.here hx rfl (hb hby d6_81) rfl ?_
    show own_S p e below T40 (mkF m 82 _ [(.int (1 : Int32)), (.ref b3)]) _
    refine XS.dload X40.here hx rfl (hb hby d6_82) rfl ?_
    show own_S p e below T40 (mkF m 84 _ [(.double r1), (.int (1 : Int32)), (.ref b3)]) _
    exact kt
  obtain ⟨cl45, Ar45, qq45, S45, M45, H45, GG45⟩ := id VL24
  have hin45 : ¬ ((1 : Int32) < 0 ∨ cl45.slots.size ≤ ((1 : Int32)).toNatClampNeg) := inb_of S45 ⟨by decide, by decide⟩
  obtain ⟨T46, h46, X46, e46, W46, st46⟩ := stD X40 hx hZ e40 Ar45 (j := (1 : Int32)) hin45 (g := (mkF m 84 #[.val (.ref a0), .val (.ref a1), .val (.ref b3), .val (.int (1 : Int32)), .val (.int eb), .val (.double r1), .second, .val (.int (0 : Int32)), .unset, .unset] [(.double r1), (.int (1 : Int32)), (.ref b3)])) rfl rfl (hb hby d6_84)
  have K46 : own_K p e below G0 T46 (mkF m 85 #[.val (.ref a0), .val (.ref a1), .val (.ref b3), .val (.int (1 : Int32)), .val (.int eb), .val (.double r1), .second, .val (.int (0 : Int32)), .unset, .unset] []) := fun t kt => K44 t (st46 _ kt)
  have Z46 : n0 ≤ h46.size := Nat.le_trans Z24 (Keep.of_wr W46).1
  have VL46 : Arv Z h46 b3 k3 .double (2 : Int32) [(.double r0), (.double r1)] (.double 0) := Arv.set Ar45 qq45 S45 M45 H45 GG45 rfl W46 1 rfl (Nat.le_of_ble_eq_true rfl)
  have N46 := Fr.snoc X46 N24 gn3
  have K47 : own_K p e below G0 T46 (mkF m 88 #[.val (.ref a0), .val (.ref a1), .val (.ref b3), .val (.int ((1 : Int32) + (1 : Int32))), .val (.int eb), .val (.double r1), .second, .val (.int (0 : Int32)), .unset, .unset] []) := by
    intro t kt
    refine K46 t ?_
    refine XS.iinc X46.here hx rfl (hb hby d6_85) rfl (l' := #[.val (.ref a0), .val (.ref a1), .val (.ref b3), .val (.int ((1 : Int32) + (1 : Int32))), .val (.int eb), .val (.double r1), .second, .val (.int (0 : Int32)), .unset, .unset]) rfl ?_
    show own_S p e below T46 (mkF m 88 _ []) _
    exact kt
  rw [show ((1 : Int32) + (1 : Int32)) = (2 : Int32) from by decide] at K47
  have K48 : own_K p e below G0 T46 (mkF m 11 #[.val (.ref a0), .val (.ref a1), .val (.ref b3), .val (.int (2 : Int32)), .val (.int eb), .val (.double r1), .second, .val (.int (0 : Int32)), .unset, .unset] [(.ref a0), (.int (2 : Int32))]) := by
    intro t kt
    refine K47 t ?_
    refine XS.goto X46.here hx rfl (pc0 := 88) (pc' := 9) rfl (hb hby d6_88) (by decide) (by decide) ?_
    show own_S p e below T46 (mkF m 9 _ []) _
    refine XS.iloadN X46.here hx rfl (hb hby d6_9) rfl ?_
    show own_S p e below T46 (mkF m 10 _ [(.int (2 : Int32))]) _
    refine XS.aloadN X46.here hx rfl (hb hby d6_10) rfl rfl ?_
    show own_S p e below T46 (mkF m 11 _ [(.ref a0), (.int (2 : Int32))]) _
    exact kt
  have f49 := (f27.other W46 (Or.inl ne_a0_b3))
  obtain ⟨T50, X50, e50, st50⟩ := getF X46 hx hZ hown (host := "") (Or.inl (hw _ (List.mem_of_getElem? (i := 43) rfl))) Via.refl e46 f49 (g := (mkF m 11 #[.val (.ref a0), .val (.ref a1), .val (.ref b3), .val (.int (2 : Int32)), .val (.int eb), .val (.double r1), .second, .val (.int (0 : Int32)), .unset, .unset] [(.ref a0), (.int (2 : Int32))])) rfl rfl (hb hby d6_11)
  have K50 : own_K p e below G0 T50 (mkF m 14 #[.val (.ref a0), .val (.ref a1), .val (.ref b3), .val (.int (2 : Int32)), .val (.int eb), .val (.double r1), .second, .val (.int (0 : Int32)), .unset, .unset] [(.int (2 : Int32)), (.int (2 : Int32))]) := fun t kt => K48 t (st50 _ kt)
  have K51 : own_K p e below G0 T50 (mkF m 92 #[.val (.ref a0), .val (.ref a1), .val (.ref b3), .val (.int (2 : Int32)), .val (.int eb), .val (.double r1), .second, .val (.int (0 : Int32)), .unset, .unset] [(.ref a0)]) := by
    intro t kt
    refine K50 t ?_
    refine XS.icmpYes X50.here hx rfl (pc0 := 14) (pc' := 91) rfl (hb hby d6_14) rfl (flt (by decide)).2.1 (by decide) (by decide) ?_
    show own_S p e below T50 (mkF m 91 _ []) _
    refine XS.aloadN X50.here hx rfl (hb hby d6_91) rfl rfl ?_
    show own_S p e below T50 (mkF m 92 _ [(.ref a0)]) _
    exact kt
  have f52 := (((fc_1.ext E3).other W24 (Or.inl ne_a0_b3)).other W46 (Or.inl ne_a0_b3))
  obtain ⟨T53, X53, e53, st53⟩ := getF X50 hx hZ hown (host := "") (Or.inl (hw _ (List.mem_of_getElem? (i := 14) rfl))) Via.refl e50 f52 (g := (mkF m 92 #[.val (.ref a0), .val (.ref a1), .val (.ref b3), .val (.int (2 : Int32)), .val (.int eb), .val (.double r1), .second, .val (.int (0 : Int32)), .unset, .unset] [(.ref a0)])) rfl rfl (hb hby d6_92)
  have K53 : own_K p e below G0 T53 (mkF m 95 #[.val (.ref a0), .val (.ref a1), .val (.ref b3), .val (.int (2 : Int32)), .val (.int eb), .val (.double r1), .second, .val (.int (0 : Int32)), .unset, .unset] [(.int (3 : Int32))]) := fun t kt => K51 t (st53 _ kt)
  have f54 := (((fc_0.ext E3).wr W24).wr W46)
  have f55 := (((fc_10.ext E3).other W24 ne_rb_b3).other W46 ne_rb_b3)
  have f56 := (((fc_11.ext E3).other W24 ne_ml_b3).other W46 ne_ml_b3)
  have f57 := (f42.other W46 ne_ln_b3)
  have f58 := (f33.other W46 ne_pe_b3)
  have f59 := (((fc_14.ext E3).other W24 ne_pu_b3).other W46 ne_pu_b3)
  have f60 := (((fc_15.ext E3).other W24 ne_pc_b3).other W46 ne_pc_b3)
  have f61 := (f36.other W46 ne_a1_b3)
  have f62 := (((V_ra.ext E3).other W24 ne_ra_b3).other W46 ne_ra_b3)
  have f63 := (((V_ca.ext E3).other W24 ne_ca_b3).other W46 ne_ca_b3)
  have f64 := (((V_rc.ext E3).other W24 ne_rc_b3).other W46 ne_rc_b3)
  have f65 := (((V_cc.ext E3).other W24 ne_cc_b3).other W46 ne_cc_b3)
  obtain ⟨T66, h66, k66, X66, e66, E66, A66, st66⟩ := newP X53 hx hZ (hw _ (List.mem_of_getElem? (i := 4) rfl)) e53 (g := (mkF m 95 #[.val (.ref a0), .val (.ref a1), .val (.ref b3), .val (.int (2 : Int32)), .val (.int eb), .val (.double r1), .second, .val (.int (0 : Int32)), .unset, .unset] [(.int (3 : Int32))])) rfl (hb hby d6_95) rfl (by decide) (cap := 3) (by decide) (by decide) (by decide) (by decide)
  obtain ⟨b66, g66⟩ : ∃ z, z = h46.size := ⟨_, rfl⟩
  rw [← g66] at A66 st66
  have V66 := Arv.new A66 (by decide)
  have gn66 : n0 ≤ b66 := Nat.le_trans Z46 (Nat.le_of_eq g66.symm)
  have Z66 : n0 ≤ h66.size := Nat.le_trans Z46 E66.1
  have K66 : own_K p e below G0 T66 (mkF m 97 #[.val (.ref a0), .val (.ref a1), .val (.ref b3), .val (.int (2 : Int32)), .val (.int eb), .val (.double r1), .second, .val (.int (0 : Int32)), .unset, .unset] [(.ref b66)]) := fun t kt => K53 t (st66 _ kt)
  have ne_a0_b66 : a0 ≠ b66 := Nat.ne_of_lt (Nat.lt_of_lt_of_le (f54).lt (Nat.le_of_eq g66.symm))
  have ne_rb_b66 : rb ≠ b66 := Nat.ne_of_lt (Nat.lt_of_lt_of_le (f55).lt (Nat.le_of_eq g66.symm))
  have ne_ml_b66 : ml ≠ b66 := Nat.ne_of_lt (Nat.lt_of_lt_of_le (f56).lt (Nat.le_of_eq g66.symm))
  have ne_ln_b66 : ln ≠ b66 := Nat.ne_of_lt (Nat.lt_of_lt_of_le (f57).lt (Nat.le_of_eq g66.symm))
  have ne_pe_b66 : pe ≠ b66 := Nat.ne_of_lt (Nat.lt_of_lt_of_le (f58).lt (Nat.le_of_eq g66.symm))
  have ne_pu_b66 : pu ≠ b66 := Nat.ne_of_lt (Nat.lt_of_lt_of_le (f59).lt (Nat.le_of_eq g66.symm))
  have ne_pc_b66 : pc ≠ b66 := Nat.ne_of_lt (Nat.lt_of_lt_of_le (f60).lt (Nat.le_of_eq g66.symm))
  have ne_a1_b66 : a1 ≠ b66 := Nat.ne_of_lt (Nat.lt_of_lt_of_le (f61).lt (Nat.le_of_eq g66.symm))
  have ne_ra_b66 : ra ≠ b66 := Nat.ne_of_lt (Nat.lt_of_lt_of_le (f62).lt (Nat.le_of_eq g66.symm))
  have ne_ca_b66 : ca ≠ b66 := Nat.ne_of_lt (Nat.lt_of_lt_of_le (f63).lt (Nat.le_of_eq g66.symm))
  have ne_rc_b66 : rc ≠ b66 := Nat.ne_of_lt (Nat.lt_of_lt_of_le (f64).lt (Nat.le_of_eq g66.symm))
  have ne_cc_b66 : cc ≠ b66 := Nat.ne_of_lt (Nat.lt_of_lt_of_le (f65).lt (Nat.le_of_eq g66.symm))
  have ne_b3_b66 : b3 ≠ b66 := Nat.ne_of_lt (Nat.lt_of_lt_of_le (VL46).lt (Nat.le_of_eq g66.symm))
  have VL66 : Arv Z h66 b66 k66 .double (3 : Int32) [(.double 0), (.double 0), (.double 0)] (.double 0) := V66.pad (pad_rep [] (.double 0) 3)
  have VSb66 : Arv Z h66 b66 k66 .double (3 : Int32) (own_l3 (fun _ => (.double 0))) (.double 0) := VL66
  have K67 : own_K p e below G0 T66 (mkF m 99 #[.val (.ref a0), .val (.ref a1), .val (.ref b3), .val (.ref b66), .val (.int eb), .val (.double r1), .second, .val (.int (0 : Int32)), .unset, .unset] [(.ref a0)]) := by
    intro t kt
    refine K66 t ?_
    refine XS.astoreN X66.here hx rfl (hb hby d6_97) rfl rfl (l' := #[.val (.ref a0), .val (.ref a1), .val (.ref b3), .val (.ref b66), .val (.int eb), .val (.double r1), .second, .val (.int (0 : Int32)), .unset, .unset]) rfl ?_
    show own_S p e below T66 (mkF m 98 _ []) _
    refine XS.aloadN X66.here hx rfl (hb hby d6_98) rfl rfl ?_
    show own_S p e below T66 (mkF m 99 _ [(.ref a0)]) _
    exact kt
  have f68 := (f49.ext E66)
  obtain ⟨T69, X69, e69, st69⟩ := getF X66 hx hZ hown (host := "") (Or.inl (hw _ (List.mem_of_getElem? (i := 43) rfl))) Via.refl e66 f68 (g := (mkF m 99 #[.val (.ref a0), .val (.ref a1), .val (.ref b3), .val (.ref b66), .val (.int eb), .val (.double r1), .second, .val (.int (0 : Int32)), .unset, .unset] [(.ref a0)])) rfl rfl (hb hby d6_99)
  have K69 : own_K p e below G0 T69 (mkF m 102 #[.val (.ref a0), .val (.ref a1), .val (.ref b3), .val (.ref b66), .val (.int eb), .val (.double r1), .second, .val (.int (0 : Int32)), .unset, .unset] [(.int (2 : Int32))]) := fun t kt => K67 t (st69 _ kt)
  have K70 : own_K p e below G0 T69 (mkF m 106 #[.val (.ref a0), .val (.ref a1), .val (.ref b3), .val (.ref b66), .val (.int ((2 : Int32) - (1 : Int32))), .val (.double r1), .second, .val (.int (0 : Int32)), .unset, .unset] []) := by
    intro t kt
    refine K69 t ?_
    refine XS.iconst X69.here hx rfl (hb hby d6_102) ?_
    show own_S p e below T69 (mkF m 103 _ [(.int (1 : Int32)), (.int (2 : Int32))]) _
    refine XS.isub X69.here hx rfl (hb hby d6_103) rfl ?_
    show own_S p e below T69 (mkF m 104 _ [(.int ((2 : Int32) - (1 : Int32)))]) _
    refine XS.istore X69.here hx rfl (hb hby d6_104) rfl (l' := #[.val (.ref a0), .val (.ref a1), .val (.ref b3), .val (.ref b66), .val (.int ((2 : Int32) - (1 : Int32))), .val (.double r1), .second, .val (.int (0 : Int32)), .unset, .unset]) rfl ?_
    show own_S p e below T69 (mkF m 106 _ []) _
    exact kt
  rw [show ((2 : Int32) - (1 : Int32)) = (1 : Int32) from by decide] at K70
  have K71 : own_K p e below G0 T69 (mkF m 112 #[.val (.ref a0), .val (.ref a1), .val (.ref b3), .val (.ref b66), .val (.int (1 : Int32)), .val (.double r1), .second, .val (.int (0 : Int32)), .unset, .unset] [(.ref a0)]) := by
    intro t kt
    refine K70 t ?_
    refine XS.iload X69.here hx rfl (hb hby d6_106) rfl ?_
    show own_S p e below T69 (mkF m 108 _ [(.int (1 : Int32))]) _
    refine XS.ifNo X69.here hx rfl (hb hby d6_108) rfl ((if0 _ _).trans (flt (by decide)).1) ?_
    show own_S p e below T69 (mkF m 111 _ []) _
    refine XS.aloadN X69.here hx rfl (hb hby d6_111) rfl rfl ?_
    show own_S p e below T69 (mkF m 112 _ [(.ref a0)]) _
    exact kt
  have f72 := ((((fc_8.ext E3).other W24 (Or.inl ne_a0_b3)).other W46 (Or.inl ne_a0_b3)).ext E66)
  obtain ⟨T73, X73, e73, st73⟩ := getF X69 hx hZ hown (host := "") (Or.inl (hw _ (List.mem_of_getElem? (i := 34) rfl))) Via.refl e69 f72 (g := (mkF m 112 #[.val (.ref a0), .val (.ref a1), .val (.ref b3), .val (.ref b66), .val (.int (1 : Int32)), .val (.double r1), .second, .val (.int (0 : Int32)), .unset, .unset] [(.ref a0)])) rfl rfl (hb hby d6_112)
  have K73 : own_K p e below G0 T73 (mkF m 115 #[.val (.ref a0), .val (.ref a1), .val (.ref b3), .val (.ref b66), .val (.int (1 : Int32)), .val (.double r1), .second, .val (.int (0 : Int32)), .unset, .unset] [(.ref pu)]) := fun t kt => K71 t (st73 _ kt)
  have K74 : own_K p e below G0 T73 (mkF m 117 #[.val (.ref a0), .val (.ref a1), .val (.ref b3), .val (.ref b66), .val (.int (1 : Int32)), .val (.double r1), .second, .val (.int (0 : Int32)), .unset, .unset] [(.int (1 : Int32)), (.ref pu)]) := by
    intro t kt
    refine K73 t ?_
    refine XS.iload X73.here hx rfl (hb hby d6_115) rfl ?_
    show own_S p e below T73 (mkF m 117 _ [(.int (1 : Int32)), (.ref pu)]) _
    exact kt
  have f75 := (f59.ext E66)
  obtain ⟨cl76, Ar76, qq76, S76, M76, H76, GG76⟩ := id f75
  have hin76 : ¬ ((1 : Int32) < 0 ∨ cl76.slots.size ≤ ((1 : Int32)).toNatClampNeg) := inb_of S76 ⟨by decide, by decide⟩
  have hat76 : cl76.slots[((1 : Int32)).toNatClampNeg]? = some (.ref rc) := Has.at H76 hin76 rfl
  have K77 : own_K p e below G0 T73 (mkF m 121 #[.val (.ref a0), .val (.ref a1), .val (.ref b3), .val (.ref b66), .val (.int (1 : Int32)), .val (.ref rc), .unset, .val (.int (0 : Int32)), .unset, .unset] [(.ref a0)]) := by
    intro t kt
    refine K74 t ?_
    refine X73.aaload hx (j := (1 : Int32)) (v := (.ref rc)) (by rw [e73]; exact (Ar76).1) (State.isArrayOf_alike hZ.alike (Ar76).2.1) rfl (Ar76).2.2 hin76 hat76 (g := (mkF m 117 #[.val (.ref a0), .val (.ref a1), .val (.ref b3), .val (.ref b66), .val (.int (1 : Int32)), .val (.double r1), .second, .val (.int (0 : Int32)), .unset, .unset] [(.int (1 : Int32)), (.ref pu)])) rfl rfl (hb hby d6_117) _ ?_
    show own_S p e below T73 (mkF m 118 _ [(.ref rc)]) _
    refine XS.astore X73.here hx rfl (hb hby d6_118) rfl rfl (l' := #[.val (.ref a0), .val (.ref a1), .val (.ref b3), .val (.ref b66), .val (.int (1 : Int32)), .val (.ref rc), .unset, .val (.int (0 : Int32)), .unset, .unset]) rfl ?_
    show own_S p e below T73 (mkF m 120 _ []) _
    refine XS.aloadN X73.here hx rfl (hb hby d6_120) rfl rfl ?_
    show own_S p e below T73 (mkF m 121 _ [(.ref a0)]) _
    exact kt
  have f78 := ((((fc_9.ext E3).other W24 (Or.inl ne_a0_b3)).other W46 (Or.inl ne_a0_b3)).ext E66)
  obtain ⟨T79, X79, e79, st79⟩ := getF X73 hx hZ hown (host := "") (Or.inl (hw _ (List.mem_of_getElem? (i := 36) rfl))) Via.refl e73 f78 (g := (mkF m 121 #[.val (.ref a0), .val (.ref a1), .val (.ref b3), .val (.ref b66), .val (.int (1 : Int32)), .val (.ref rc), .unset, .val (.int (0 : Int32)), .unset, .unset] [(.ref a0)])) rfl rfl (hb hby d6_121)
  have K79 : own_K p e below G0 T79 (mkF m 124 #[.val (.ref a0), .val (.ref a1), .val (.ref b3), .val (.ref b66), .val (.int (1 : Int32)), .val (.ref rc), .unset, .val (.int (0 : Int32)), .unset, .unset] [(.ref pc)]) := fun t kt => K77 t (st79 _ kt)
  have K80 : own_K p e below G0 T79 (mkF m 126 #[.val (.ref a0), .val (.ref a1), .val (.ref b3), .val (.ref b66), .val (.int (1 : Int32)), .val (.ref rc), .unset, .val (.int (0 : Int32)), .unset, .unset] [(.int (1 : Int32)), (.ref pc)]) := by
    intro t kt
    refine K79 t ?_
    refine XS.iload X79.here hx rfl (hb hby d6_124) rfl ?_
    show own_S p e below T79 (mkF m 126 _ [(.int (1 : Int32)), (.ref pc)]) _
    exact kt
  have f81 := (f60.ext E66)
  obtain ⟨cl82, Ar82, qq82, S82, M82, H82, GG82⟩ := id f81
  have hin82 : ¬ ((1 : Int32) < 0 ∨ cl82.slots.size ≤ ((1 : Int32)).toNatClampNeg) := inb_of S82 ⟨by decide, by decide⟩
  have hat82 : cl82.slots[((1 : Int32)).toNatClampNeg]? = some (.ref cc) := Has.at H82 hin82 rfl
  have K83 : own_K p e below G0 T79 (mkF m 132 #[.val (.ref a0), .val (.ref a1), .val (.ref b3), .val (.ref b66), .val (.int (1 : Int32)), .val (.ref rc), .val (.ref cc), .val (.int (0 : Int32)), .unset, .unset] [(.int (1 : Int32)), (.ref b3)]) := by
    intro t kt
    refine K80 t ?_
    refine X79.aaload hx (j := (1 : Int32)) (v := (.ref cc)) (by rw [e79]; exact (Ar82).1) (State.isArrayOf_alike hZ.alike (Ar82).2.1) rfl (Ar82).2.2 hin82 hat82 (g := (mkF m 126 #[.val (.ref a0), .val (.ref a1), .val (.ref b3), .val (.ref b66), .val (.int (1 : Int32)), .val (.ref rc), .unset, .val (.int (0 : Int32)), .unset, .unset] [(.int (1 : Int32)), (.ref pc)])) rfl rfl (hb hby d6_126) _ ?_
    show own_S p e below T79 (mkF m 127 _ [(.ref cc)]) _
    refine XS.astore X79.here hx rfl (hb hby d6_127) rfl rfl (l' := #[.val (.ref a0), .val (.ref a1), .val (.ref b3), .val (.ref b66), .val (.int (1 : Int32)), .val (.ref rc), .val (.ref cc), .val (.int (0 : Int32)), .unset, .unset]) rfl ?_
    show own_S p e below T79 (mkF m 129 _ []) _
    refine XS.aloadN X79.here hx rfl (hb hby d6_129) rfl rfl ?_
    show own_S p e below T79 (mkF m 130 _ [(.ref b3)]) _
    refine XS.iload X79.here hx rfl (hb hby d6_130) rfl ?_
    show own_S p e below T79 (mkF m 132 _ [(.int (1 : Int32)), (.ref b3)]) _
    exact kt
  have f84 := (VL46.ext E66)
  obtain ⟨cl85, Ar85, qq85, S85, M85, H85, GG85⟩ := id f84
  have hin85 : ¬ ((1 : Int32) < 0 ∨ cl85.slots.size ≤ ((1 : Int32)).toNatClampNeg) := inb_of S85 ⟨by decide, by decide⟩
  have hat85 : cl85.slots[((1 : Int32)).toNatClampNeg]? = some (.double r1) := Has.at H85 hin85 rfl
  have K86 : own_K p e below G0 T79 (mkF m 142 #[.val (.ref a0), .val (.ref a1), .val (.ref b3), .val (.ref b66), .val (.int (1 : Int32)), .val (.ref rc), .val (.ref cc), .val (.double r1), .second, .val (.int (1 : Int32))] [(.ref rc), (.int (1 : Int32))]) := by
    intro t kt
    refine K83 t ?_
    refine X79.daload hx (j := (1 : Int32)) (v := (.double r1)) (by rw [e79]; exact (Ar85).1) (State.isArrayOf_alike hZ.alike (Ar85).2.1) (Ar85).2.2 hin85 hat85 (g := (mkF m 132 #[.val (.ref a0), .val (.ref a1), .val (.ref b3), .val (.ref b66), .val (.int (1 : Int32)), .val (.ref rc), .val (.ref cc), .val (.int (0 : Int32)), .unset, .unset] [(.int (1 : Int32)), (.ref b3)])) rfl rfl (hb hby d6_132) _ ?_
    show own_S p e below T79 (mkF m 133 _ [(.double r1)]) _
    refine XS.dstore X79.here hx rfl (hb hby d6_133) rfl (l' := #[.val (.ref a0), .val (.ref a1), .val (.ref b3), .val (.ref b66), .val (.int (1 : Int32)), .val (.ref rc), .val (.ref cc), .val (.double r1), .second, .unset]) rfl ?_
    show own_S p e below T79 (mkF m 135 _ []) _
    refine XS.iconst X79.here hx rfl (hb hby d6_135) ?_
    show own_S p e below T79 (mkF m 136 _ [(.int (1 : Int32))]) _
    refine XS.istore X79.here hx rfl (hb hby d6_136) rfl (l' := #[.val (.ref a0), .val (.ref a1), .val (.ref b3), .val (.ref b66), .val (.int (1 : Int32)), .val (.ref rc), .val (.ref cc), .val (.double r1), .second, .val (.int (1 : Int32))]) rfl ?_
    show own_S p e below T79 (mkF m 138 _ []) _
    refine XS.iload X79.here hx rfl (hb hby d6_138) rfl ?_
    show own_S p e below T79 (mkF m 140 _ [(.int (1 : Int32))]) _
    refine XS.aload X79.here hx rfl (hb hby d6_140) rfl rfl ?_
    show own_S p e below T79 (mkF m 142 _ [(.ref rc), (.int (1 : Int32))]) _
    exact kt
  have f87 := (f64.ext E66)
  obtain ⟨cl88, Ar88, qq88, S88, M88, H88, GG88⟩ := id f87
  have K89 : own_K p e below G0 T79 (mkF m 152 #[.val (.ref a0), .val (.ref a1), .val (.ref b3), .val (.ref b66), .val (.int (1 : Int32)), .val (.ref rc), .val (.ref cc), .val (.double r1), .second, .val (.int (1 : Int32))] [(.int (1 : Int32)), (.ref cc), (.double r1)]) := by
    intro t kt
    refine K86 t ?_
    refine X79.arraylength hx (by rw [e79]; exact (Ar88).1) (State.isArrayOf_alike hZ.alike (Ar88).2.1) (g := (mkF m 142 #[.val (.ref a0), .val (.ref a1), .val (.ref b3), .val (.ref b66), .val (.int (1 : Int32)), .val (.ref rc), .val (.ref cc), .val (.double r1), .second, .val (.int (1 : Int32))] [(.ref rc), (.int (1 : Int32))])) rfl rfl (hb hby d6_142) _ ?_
    rw [len_of S88 M88]
    show own_S p e below T79 (mkF m 143 #[.val (.ref a0), .val (.ref a1), .val (.ref b3), .val (.ref b66), .val (.int (1 : Int32)), .val (.ref rc), .val (.ref cc), .val (.double r1), .second, .val (.int (1 : Int32))] [(.int (2 : Int32)), (.int (1 : Int32))]) _
    refine XS.icmpNo X79.here hx rfl (hb hby d6_143) rfl (tlt (by decide)).2.1 ?_
    show own_S p e below T79 (mkF m 146 _ []) _
    refine XS.dload X79.here hx rfl (hb hby d6_146) rfl ?_
    show own_S p e below T79 (mkF m 148 _ [(.double r1)]) _
    refine XS.aload X79.here hx rfl (hb hby d6_148) rfl rfl ?_
    show own_S p e below T79 (mkF m 150 _ [(.ref cc), (.double r1)]) _
    refine XS.iload X79.here hx rfl (hb hby d6_150) rfl ?_
    show own_S p e below T79 (mkF m 152 _ [(.int (1 : Int32)), (.ref cc), (.double r1)]) _
    exact kt
  have f90 := (f65.ext E66)
  obtain ⟨cl91, Ar91, qq91, S91, M91, H91, GG91⟩ := id f90
  have hin91 : ¬ ((1 : Int32) < 0 ∨ cl91.slots.size ≤ ((1 : Int32)).toNatClampNeg) := inb_of S91 ⟨by decide, by decide⟩
  have hat91 : cl91.slots[((1 : Int32)).toNatClampNeg]? = some (.double dd) := Has.at H91 hin91 rfl
  have K92 : own_K p e below G0 T79 (mkF m 158 #[.val (.ref a0), .val (.ref a1), .val (.ref b3), .val (.ref b66), .val (.int (1 : Int32)), .val (.ref rc), .val (.ref cc), .val (.double r1), .second, .val (.int (1 : Int32))] [(.int (1 : Int32)), (.ref rc), (.ref b66), (.double dd), (.double r1)]) := by
    intro t kt
    refine K89 t ?_
    refine X79.daload hx (j := (1 : Int32)) (v := (.double dd)) (by rw [e79]; exact (Ar91).1) (State.isArrayOf_alike hZ.alike (Ar91).2.1) (Ar91).2.2 hin91 hat91 (g := (mkF m 152 #[.val (.ref a0), .val (.ref a1), .val (.ref b3), .val (.ref b66), .val (.int (1 : Int32)), .val (.ref rc), .val (.ref cc), .val (.double r1), .second, .val (.int (1 : Int32))] [(.int (1 : Int32)), (.ref cc), (.double r1)])) rfl rfl (hb hby d6_152) _ ?_
    show own_S p e below T79 (mkF m 153 _ [(.double dd), (.double r1)]) _
    refine XS.aloadN X79.here hx rfl (hb hby d6_153) rfl rfl ?_
    show own_S p e below T79 (mkF m 154 _ [(.ref b66), (.double dd), (.double r1)]) _
    refine XS.aload X79.here hx rfl (hb hby d6_154) rfl rfl ?_
    show own_S p e below T79 (mkF m 156 _ [(.ref rc), (.ref b66), (.double dd), (.double r1)]) _
    refine XS.iload X79.here hx rfl (hb hby d6_156) rfl ?_
    show own_S p e below T79 (mkF m 158 _ [(.int (1 : Int32)), (.ref rc), (.ref b66), (.double dd), (.double r1)]) _
    exact kt
  obtain ⟨cl93, Ar93, qq93, S93, M93, H93, GG93⟩ := id f87
  have hin93 : ¬ ((1 : Int32) < 0 ∨ cl93.slots.size ≤ ((1 : Int32)).toNatClampNeg) := inb_of S93 ⟨by decide, by decide⟩
  have hat93 : cl93.slots[((1 : Int32)).toNatClampNeg]? = some (.int gf) := Has.at H93 hin93 rfl
  have K94 : own_K p e below G0 T79 (mkF m 159 #[.val (.ref a0), .val (.ref a1), .val (.ref b3), .val (.ref b66), .val (.int (1 : Int32)), .val (.ref rc), .val (.ref cc), .val (.double r1), .second, .val (.int (1 : Int32))] [(.int gf), (.ref b66), (.double dd), (.double r1)]) := by
    intro t kt
    refine K92 t ?_
    refine X79.iaload hx (j := (1 : Int32)) (v := (.int gf)) (by rw [e79]; exact (Ar93).1) (State.isArrayOf_alike hZ.alike (Ar93).2.1) (Ar93).2.2 hin93 hat93 (g := (mkF m 158 #[.val (.ref a0), .val (.ref a1), .val (.ref b3), .val (.ref b66), .val (.int (1 : Int32)), .val (.ref rc), .val (.ref cc), .val (.double r1), .second, .val (.int (1 : Int32))] [(.int (1 : Int32)), (.ref rc), (.ref b66), (.double dd), (.double r1)])) rfl rfl (hb hby d6_158) _ ?_
    show own_S p e below T79 (mkF m 159 _ [(.int gf), (.ref b66), (.double dd), (.double r1)]) _
    exact kt
  obtain ⟨cl95, Ar95, qq95, S95, M95, H95, GG95⟩ := id VSb66
  have hin95 := inb_of S95 (own_in3 hRf)
  have hat95 : cl95.slots[(gf).toNatClampNeg]? = some (.double 0) := Has.at H95 hin95 ((own_g3 hRf).trans rfl)
  have K96 : own_K p e below G0 T79 (mkF m 167 #[.val (.ref a0), .val (.ref a1), .val (.ref b3), .val (.ref b66), .val (.int (1 : Int32)), .val (.ref rc), .val (.ref cc), .val (.double (FP.dsub r1 (FP.dmul dd 0))), .second, .val (.int ((1 : Int32) + (1 : Int32)))] []) := by
    intro t kt
    refine K94 t ?_
    refine X79.daload hx (j := gf) (v := (.double 0)) (by rw [e79]; exact (Ar95).1) (State.isArrayOf_alike hZ.alike (Ar95).2.1) (Ar95).2.2 hin95 hat95 (g := (mkF m 159 #[.val (.ref a0), .val (.ref a1), .val (.ref b3), .val (.ref b66), .val (.int (1 : Int32)), .val (.ref rc), .val (.ref cc), .val (.double r1), .second, .val (.int (1 : Int32))] [(.int gf), (.ref b66), (.double dd), (.double r1)])) rfl rfl (hb hby d6_159) _ ?_
    show own_S p e below T79 (mkF m 160 _ [(.double 0), (.double dd), (.double r1)]) _
    refine XS.dmulS X79.here hx rfl (hb hby d6_160) rfl (own_V_nonan qc) rfl ?_
    show own_S p e below T79 (mkF m 161 _ [(.double (FP.dmul dd 0)), (.double r1)]) _
    refine XS.dsubS X79.here hx rfl (hb hby d6_161) rfl (own_V_nonan qd) rfl ?_
    show own_S p e below T79 (mkF m 162 _ [(.double (FP.dsub r1 (FP.dmul dd 0)))]) _
    refine XS.dstore X79.here hx rfl (hb hby d6_162) rfl (l' := #[.val (.ref a0), .val (.ref a1), .val (.ref b3), .val (.ref b66), .val (.int (1 : Int32)), .val (.ref rc), .val (.ref cc), .val (.double (FP.dsub r1 (FP.dmul dd 0))), .second, .val (.int (1 : Int32))]) rfl ?_
    show own_S p e below T79 (mkF m 164 _ []) _
    refine XS.iinc X79.here hx rfl (hb hby d6_164) rfl (l' := #[.val (.ref a0), .val (.ref a1), .val (.ref b3), .val (.ref b66), .val (.int (1 : Int32)), .val (.ref rc), .val (.ref cc), .val (.double (FP.dsub r1 (FP.dmul dd 0))), .second, .val (.int ((1 : Int32) + (1 : Int32)))]) rfl ?_
    show own_S p e below T79 (mkF m 167 _ []) _
    exact kt
  rw [show ((1 : Int32) + (1 : Int32)) = (2 : Int32) from by decide] at K96
  have K97 : own_K p e below G0 T79 (mkF m 142 #[.val (.ref a0), .val (.ref a1), .val (.ref b3), .val (.ref b66), .val (.int (1 : Int32)), .val (.ref rc), .val (.ref cc), .val (.double (FP.dsub r1 (FP.dmul dd 0))), .second, .val (.int (2 : Int32))] [(.ref rc), (.int (2 : Int32))]) := by
    intro t kt
    refine K96 t ?_
    refine XS.goto X79.here hx rfl (pc0 := 167) (pc' := 138) rfl (hb hby d6_167) (by decide) (by decide) ?_
    show own_S p e below T79 (mkF m 138 _ []) _
    refine XS.iload X79.here hx rfl (hb hby d6_138) rfl ?_
    show own_S p e below T79 (mkF m 140 _ [(.int (2 : Int32))]) _
    refine XS.aload X79.here hx rfl (hb hby d6_140) rfl rfl ?_
    show own_S p e below T79 (mkF m 142 _ [(.ref rc), (.int (2 : Int32))]) _
    exact kt
  obtain ⟨cl98, Ar98, qq98, S98, M98, H98, GG98⟩ := id f87
  have K99 : own_K p e below G0 T79 (mkF m 174 #[.val (.ref a0), .val (.ref a1), .val (.ref b3), .val (.ref b66), .val (.int (1 : Int32)), .val (.ref rc), .val (.ref cc), .val (.double (FP.dsub r1 (FP.dmul dd 0))), .second, .val (.int (2 : Int32))] [(.int (0 : Int32)), (.ref rc), (.ref b66)]) := by
    intro t kt
    refine K97 t ?_
    refine X79.arraylength hx (by rw [e79]; exact (Ar98).1) (State.isArrayOf_alike hZ.alike (Ar98).2.1) (g := (mkF m 142 #[.val (.ref a0), .val (.ref a1), .val (.ref b3), .val (.ref b66), .val (.int (1 : Int32)), .val (.ref rc), .val (.ref cc), .val (.double (FP.dsub r1 (FP.dmul dd 0))), .second, .val (.int (2 : Int32))] [(.ref rc), (.int (2 : Int32))])) rfl rfl (hb hby d6_142) _ ?_
    rw [len_of S98 M98]
    show own_S p e below T79 (mkF m 143 #[.val (.ref a0), .val (.ref a1), .val (.ref b3), .val (.ref b66), .val (.int (1 : Int32)), .val (.ref rc), .val (.ref cc), .val (.double (FP.dsub r1 (FP.dmul dd 0))), .second, .val (.int (2 : Int32))] [(.int (2 : Int32)), (.int (2 : Int32))]) _
    refine XS.icmpYes X79.here hx rfl (pc0 := 143) (pc' := 170) rfl (hb hby d6_143) rfl (flt (by decide)).2.1 (by decide) (by decide) ?_
    show own_S p e below T79 (mkF m 170 _ []) _
    refine XS.aloadN X79.here hx rfl (hb hby d6_170) rfl rfl ?_
    show own_S p e below T79 (mkF m 171 _ [(.ref b66)]) _
    refine XS.aload X79.here hx rfl (hb hby d6_171) rfl rfl ?_
    show own_S p e below T79 (mkF m 173 _ [(.ref rc), (.ref b66)]) _
    refine XS.iconst X79.here hx rfl (hb hby d6_173) ?_
    show own_S p e below T79 (mkF m 174 _ [(.int (0 : Int32)), (.ref rc), (.ref b66)]) _
    exact kt
  obtain ⟨cl100, Ar100, qq100, S100, M100, H100, GG100⟩ := id f87
  have hin100 : ¬ ((0 : Int32) < 0 ∨ cl100.slots.size ≤ ((0 : Int32)).toNatClampNeg) := inb_of S100 ⟨by decide, by decide⟩
  have hat100 : cl100.slots[((0 : Int32)).toNatClampNeg]? = some (.int g1) := Has.at H100 hin100 rfl
  have K101 : own_K p e below G0 T79 (mkF m 180 #[.val (.ref a0), .val (.ref a1), .val (.ref b3), .val (.ref b66), .val (.int (1 : Int32)), .val (.ref rc), .val (.ref cc), .val (.double (FP.dsub r1 (FP.dmul dd 0))), .second, .val (.int (2 : Int32))] [(.int (0 : Int32)), (.ref cc), (.double (FP.dsub r1 (FP.dmul dd 0))), (.int g1), (.ref b66)]) := by
    intro t kt
    refine K99 t ?_
    refine X79.iaload hx (j := (0 : Int32)) (v := (.int g1)) (by rw [e79]; exact (Ar100).1) (State.isArrayOf_alike hZ.alike (Ar100).2.1) (Ar100).2.2 hin100 hat100 (g := (mkF m 174 #[.val (.ref a0), .val (.ref a1), .val (.ref b3), .val (.ref b66), .val (.int (1 : Int32)), .val (.ref rc), .val (.ref cc), .val (.double (FP.dsub r1 (FP.dmul dd 0))), .second, .val (.int (2 : Int32))] [(.int (0 : Int32)), (.ref rc), (.ref b66)])) rfl rfl (hb hby d6_174) _ ?_
    show own_S p e below T79 (mkF m 175 _ [(.int g1), (.ref b66)]) _
    refine XS.dload X79.here hx rfl (hb hby d6_175) rfl ?_
    show own_S p e below T79 (mkF m 177 _ [(.double (FP.dsub r1 (FP.dmul dd 0))), (.int g1), (.ref b66)]) _
    refine XS.aload X79.here hx rfl (hb hby d6_177) rfl rfl ?_
    show own_S p e below T79 (mkF m 179 _ [(.ref cc), (.double (FP.dsub r1 (FP.dmul dd 0))), (.int g1), (.ref b66)]) _
    refine XS.iconst X79.here hx rfl (hb hby d6_179) ?_
    show own_S p e below T79 (mkF m 180 _ [(.int (0 : Int32)), (.ref cc), (.double (FP.dsub r1 (FP.dmul dd 0))), (.int g1), (.ref b66)]) _
    exact kt
  obtain ⟨cl102, Ar102, qq102, S102, M102, H102, GG102⟩ := id f90
  have hin102 : ¬ ((0 : Int32) < 0 ∨ cl102.slots.size ≤ ((0 : Int32)).toNatClampNeg) := inb_of S102 ⟨by decide, by decide⟩
  have hat102 : cl102.slots[((0 : Int32)).toNatClampNeg]? = some (.double dc) := Has.at H102 hin102 rfl
  have K103 : own_K p e below G0 T79 (mkF m 182 #[.val (.ref a0), .val (.ref a1), .val (.ref b3), .val (.ref b66), .val (.int (1 : Int32)), .val (.ref rc), .val (.ref cc), .val (.double (FP.dsub r1 (FP.dmul dd 0))), .second, .val (.int (2 : Int32))] [(.double (FP.ddiv (FP.dsub r1 (FP.dmul dd 0)) dc)), (.int g1), (.ref b66)]) := by
    intro t kt
    refine K101 t ?_
    refine X79.daload hx (j := (0 : Int32)) (v := (.double dc)) (by rw [e79]; exact (Ar102).1) (State.isArrayOf_alike hZ.alike (Ar102).2.1) (Ar102).2.2 hin102 hat102 (g := (mkF m 180 #[.val (.ref a0), .val (.ref a1), .val (.ref b3), .val (.ref b66), .val (.int (1 : Int32)), .val (.ref rc), .val (.ref cc), .val (.double (FP.dsub r1 (FP.dmul dd 0))), .second, .val (.int (2 : Int32))] [(.int (0 : Int32)), (.ref cc), (.double (FP.dsub r1 (FP.dmul dd 0))), (.int g1), (.ref b66)])) rfl rfl (hb hby d6_180) _ ?_
    show own_S p e below T79 (mkF m 181 _ [(.double dc), (.double (FP.dsub r1 (FP.dmul dd 0))), (.int g1), (.ref b66)]) _
    refine XS.ddivS X79.here hx rfl (hb hby d6_181) rfl (own_V_nonan qx) rfl ?_
    show own_S p e below T79 (mkF m 182 _ [(.double (FP.ddiv (FP.dsub r1 (FP.dmul dd 0)) dc)), (.int g1), (.ref b66)]) _
    exact kt
  obtain ⟨cl104, Ar104, qq104, S104, M104, H104, GG104⟩ := id VSb66
  have hin104 := inb_of S104 (own_in3 hR1)
  obtain ⟨T105, h105, X105, e105, W105, st105⟩ := stD X79 hx hZ e79 Ar104 (j := g1) hin104 (g := (mkF m 182 #[.val (.ref a0), .val (.ref a1), .val (.ref b3), .val (.ref b66), .val (.int (1 : Int32)), .val (.ref rc), .val (.ref cc), .val (.double (FP.dsub r1 (FP.dmul dd 0))), .second, .val (.int (2 : Int32))] [(.double (FP.ddiv (FP.dsub r1 (FP.dmul dd 0)) dc)), (.int g1), (.ref b66)])) rfl rfl (hb hby d6_182)
  have K105 : own_K p e below G0 T105 (mkF m 183 #[.val (.ref a0), .val (.ref a1), .val (.ref b3), .val (.ref b66), .val (.int (1 : Int32)), .val (.ref rc), .val (.ref cc), .val (.double (FP.dsub r1 (FP.dmul dd 0))), .second, .val (.int (2 : Int32))] []) := fun t kt => K103 t (st105 _ kt)
  have Z105 : n0 ≤ h105.size := Nat.le_trans Z66 (Keep.of_wr W105).1
  have VL105 : Arv Z h105 b66 k66 .double (3 : Int32) (own_l3 (own_u g1 (.double (FP.ddiv (FP.dsub r1 (FP.dmul dd 0)) dc)) (fun _ => (.double 0)))) (.double 0) := by
    rw [← own_s3 hR1]
    exact Arv.set Ar104 qq104 S104 M104 H104 GG104 rfl W105 (g1).toNatClampNeg rfl (own_n3 hR1)
  have N105 := Fr.snoc X105 N46 gn66
  have K106 : own_K p e below G0 T105 (mkF m 186 #[.val (.ref a0), .val (.ref a1), .val (.ref b3), .val (.ref b66), .val (.int ((1 : Int32) + (-1 : Int32))), .val (.ref rc), .val (.ref cc), .val (.double (FP.dsub r1 (FP.dmul dd 0))), .second, .val (.int (2 : Int32))] []) := by
    intro t kt
    refine K105 t ?_
    refine XS.iinc X105.here hx rfl (hb hby d6_183) rfl (l' := #[.val (.ref a0), .val (.ref a1), .val (.ref b3), .val (.ref b66), .val (.int ((1 : Int32) + (-1 : Int32))), .val (.ref rc), .val (.ref cc), .val (.double (FP.dsub r1 (FP.dmul dd 0))), .second, .val (.int (2 : Int32))]) rfl ?_
    show own_S p e below T105 (mkF m 186 _ []) _
    exact kt
  rw [show ((1 : Int32) + (-1 : Int32)) = (0 : Int32) from by decide] at K106
  have K107 : own_K p e below G0 T105 (mkF m 112 #[.val (.ref a0), .val (.ref a1), .val (.ref b3), .val (.ref b66), .val (.int (0 : Int32)), .val (.ref rc), .val (.ref cc), .val (.double (FP.dsub r1 (FP.dmul dd 0))), .second, .val (.int (2 : Int32))] [(.ref a0)]) := by
    intro t kt
    refine K106 t ?_
    refine XS.goto X105.here hx rfl (pc0 := 186) (pc' := 106) rfl (hb hby d6_186) (by decide) (by decide) ?_
    show own_S p e below T105 (mkF m 106 _ []) _
    refine XS.iload X105.here hx rfl (hb hby d6_106) rfl ?_
    show own_S p e below T105 (mkF m 108 _ [(.int (0 : Int32))]) _
    refine XS.ifNo X105.here hx rfl (hb hby d6_108) rfl ((if0 _ _).trans (flt (by decide)).1) ?_
    show own_S p e below T105 (mkF m 111 _ []) _
    refine XS.aloadN X105.here hx rfl (hb hby d6_111) rfl rfl ?_
    show own_S p e below T105 (mkF m 112 _ [(.ref a0)]) _
    exact kt
  have f108 := (f72.other W105 (Or.inl ne_a0_b66))
  obtain ⟨T109, X109, e109, st109⟩ := getF X105 hx hZ hown (host := "") (Or.inl (hw _ (List.mem_of_getElem? (i := 34) rfl))) Via.refl e105 f108 (g := (mkF m 112 #[.val (.ref a0), .val (.ref a1), .val (.ref b3), .val (.ref b66), .val (.int (0 : Int32)), .val (.ref rc), .val (.ref cc), .val (.double (FP.dsub r1 (FP.dmul dd 0))), .second, .val (.int (2 : Int32))] [(.ref a0)])) rfl rfl (hb hby d6_112)
  have K109 : own_K p e below G0 T109 (mkF m 115 #[.val (.ref a0), .val (.ref a1), .val (.ref b3), .val (.ref b66), .val (.int (0 : Int32)), .val (.ref rc), .val (.ref cc), .val (.double (FP.dsub r1 (FP.dmul dd 0))), .second, .val (.int (2 : Int32))] [(.ref pu)]) := fun t kt => K107 t (st109 _ kt)
  have K110 : own_K p e below G0 T109 (mkF m 117 #[.val (.ref a0), .val (.ref a1), .val (.ref b3), .val (.ref b66), .val (.int (0 : Int32)), .val (.ref rc), .val (.ref cc), .val (.double (FP.dsub r1 (FP.dmul dd 0))), .second, .val (.int (2 : Int32))] [(.int (0 : Int32)), (.ref pu)]) := by
    intro t kt
    refine K109 t ?_
    refine XS.iload X109.here hx rfl (hb hby d6_115) rfl ?_
    show own_S p e below T109 (mkF m 117 _ [(.int (0 : Int32)), (.ref pu)]) _
    exact kt
  have f111 := (f75.other W105 ne_pu_b66)
  obtain ⟨cl112, Ar112, qq112, S112, M112, H112, GG112⟩ := id f111
  have hin112 : ¬ ((0 : Int32) < 0 ∨ cl112.slots.size ≤ ((0 : Int32)).toNatClampNeg) := inb_of S112 ⟨by decide, by decide⟩
  have hat112 : cl112.slots[((0 : Int32)).toNatClampNeg]? = some (.ref ra) := Has.at H112 hin112 rfl
  have K113 : own_K p e below G0 T109 (mkF m 121 #[.val (.ref a0), .val (.ref a1), .val (.ref b3), .val (.ref b66), .val (.int (0 : Int32)), .val (.ref ra), .val (.ref cc), .val (.double (FP.dsub r1 (FP.dmul dd 0))), .second, .val (.int (2 : Int32))] [(.ref a0)]) := by
    intro t kt
    refine K110 t ?_
    refine X109.aaload hx (j := (0 : Int32)) (v := (.ref ra)) (by rw [e109]; exact (Ar112).1) (State.isArrayOf_alike hZ.alike (Ar112).2.1) rfl (Ar112).2.2 hin112 hat112 (g := (mkF m 117 #[.val (.ref a0), .val (.ref a1), .val (.ref b3), .val (.ref b66), .val (.int (0 : Int32)), .val (.ref rc), .val (.ref cc), .val (.double (FP.dsub r1 (FP.dmul dd 0))), .second, .val (.int (2 : Int32))] [(.int (0 : Int32)), (.ref pu)])) rfl rfl (hb hby d6_117) _ ?_
    show own_S p e below T109 (mkF m 118 _ [(.ref ra)]) _
    refine XS.astore X109.here hx rfl (hb hby d6_118) rfl rfl (l' := #[.val (.ref a0), .val (.ref a1), .val (.ref b3), .val (.ref b66), .val (.int (0 : Int32)), .val (.ref ra), .val (.ref cc), .val (.double (FP.dsub r1 (FP.dmul dd 0))), .second, .val (.int (2 : Int32))]) rfl ?_
    show own_S p e below T109 (mkF m 120 _ []) _
    refine XS.aloadN X109.here hx rfl (hb hby d6_120) rfl rfl ?_
    show own_S p e below T109 (mkF m 121 _ [(.ref a0)]) _
    exact kt
  have f114 := (f78.other W105 (Or.inl ne_a0_b66))
  obtain ⟨T115, X115, e115, st115⟩ := getF X109 hx hZ hown (host := "") (Or.inl (hw _ (List.mem_of_getElem? (i := 36) rfl))) Via.refl e109 f114 (g := (mkF m 121 #[.val (.ref a0), .val (.ref a1), .val (.ref b3), .val (.ref b66), .val (.int (0 : Int32)), .val (.ref ra), .val (.ref cc), .val (.double (FP.dsub r1 (FP.dmul dd 0))), .second, .val (.int (2 : Int32))] [(.ref a0)])) rfl rfl (hb hby d6_121)
  have K115 : own_K p e below G0 T115 (mkF m 124 #[.val (.ref a0), .val (.ref a1), .val (.ref b3), .val (.ref b66), .val (.int (0 : Int32)), .val (.ref ra), .val (.ref cc), .val (.double (FP.dsub r1 (FP.dmul dd 0))), .second, .val (.int (2 : Int32))] [(.ref pc)]) := fun t kt => K113 t (st115 _ kt)
  have K116 : own_K p e below G0 T115 (mkF m 126 #[.val (.ref a0), .val (.ref a1), .val (.ref b3), .val (.ref b66), .val (.int (0 : Int32)), .val (.ref ra), .val (.ref cc), .val (.double (FP.dsub r1 (FP.dmul dd 0))), .second, .val (.int (2 : Int32))] [(.int (0 : Int32)), (.ref pc)]) := by
    intro t kt
    refine K115 t ?_
    refine XS.iload X115.here hx rfl (hb hby d6_124) rfl ?_
    show own_S p e below T115 (mkF m 126 _ [(.int (0 : Int32)), (.ref pc)]) _
    exact kt
  have f117 := (f81.other W105 ne_pc_b66)
  obtain ⟨cl118, Ar118, qq118, S118, M118, H118, GG118⟩ := id f117
  have hin118 : ¬ ((0 : Int32) < 0 ∨ cl118.slots.size ≤ ((0 : Int32)).toNatClampNeg) := inb_of S118 ⟨by decide, by decide⟩
  have hat118 : cl118.slots[((0 : Int32)).toNatClampNeg]? = some (.ref ca) := Has.at H118 hin118 rfl
  have K119 : own_K p e below G0 T115 (mkF m 132 #[.val (.ref a0), .val (.ref a1), .val (.ref b3), .val (.ref b66), .val (.int (0 : Int32)), .val (.ref ra), .val (.ref ca), .val (.double (FP.dsub r1 (FP.dmul dd 0))), .second, .val (.int (2 : Int32))] [(.int (0 : Int32)), (.ref b3)]) := by
    intro t kt
    refine K116 t ?_
    refine X115.aaload hx (j := (0 : Int32)) (v := (.ref ca)) (by rw [e115]; exact (Ar118).1) (State.isArrayOf_alike hZ.alike (Ar118).2.1) rfl (Ar118).2.2 hin118 hat118 (g := (mkF m 126 #[.val (.ref a0), .val (.ref a1), .val (.ref b3), .val (.ref b66), .val (.int (0 : Int32)), .val (.ref ra), .val (.ref cc), .val (.double (FP.dsub r1 (FP.dmul dd 0))), .second, .val (.int (2 : Int32))] [(.int (0 : Int32)), (.ref pc)])) rfl rfl (hb hby d6_126) _ ?_
    show own_S p e below T115 (mkF m 127 _ [(.ref ca)]) _
    refine XS.astore X115.here hx rfl (hb hby d6_127) rfl rfl (l' := #[.val (.ref a0), .val (.ref a1), .val (.ref b3), .val (.ref b66), .val (.int (0 : Int32)), .val (.ref ra), .val (.ref ca), .val (.double (FP.dsub r1 (FP.dmul dd 0))), .second, .val (.int (2 : Int32))]) rfl ?_
    show own_S p e below T115 (mkF m 129 _ []) _
    refine XS.aloadN X115.here hx rfl (hb hby d6_129) rfl rfl ?_
    show own_S p e below T115 (mkF m 130 _ [(.ref b3)]) _
    refine XS.iload X115.here hx rfl (hb hby d6_130) rfl ?_
    show own_S p e below T115 (mkF m 132 _ [(.int (0 : Int32)), (.ref b3)]) _
    exact kt
  have f120 := (f84.other W105 ne_b3_b66)
  obtain ⟨cl121, Ar121, qq121, S121, M121, H121, GG121⟩ := id f120
  have hin121 : ¬ ((0 : Int32) < 0 ∨ cl121.slots.size ≤ ((0 : Int32)).toNatClampNeg) := inb_of S121 ⟨by decide, by decide⟩
  have hat121 : cl121.slots[((0 : Int32)).toNatClampNeg]? = some (.double r0) := Has.at H121 hin121 rfl
  have K122 : own_K p e below G0 T115 (mkF m 142 #[.val (.ref a0), .val (.ref a1), .val (.ref b3), .val (.ref b66), .val (.int (0 : Int32)), .val (.ref ra), .val (.ref ca), .val (.double r0), .second, .val (.int (1 : Int32))] [(.ref ra), (.int (1 : Int32))]) := by
    intro t kt
    refine K119 t ?_
    refine X115.daload hx (j := (0 : Int32)) (v := (.double r0)) (by rw [e115]; exact (Ar121).1) (State.isArrayOf_alike hZ.alike (Ar121).2.1) (Ar121).2.2 hin121 hat121 (g := (mkF m 132 #[.val (.ref a0), .val (.ref a1), .val (.ref b3), .val (.ref b66), .val (.int (0 : Int32)), .val (.ref ra), .val (.ref ca), .val (.double (FP.dsub r1 (FP.dmul dd 0))), .second, .val (.int (2 : Int32))] [(.int (0 : Int32)), (.ref b3)])) rfl rfl (hb hby d6_132) _ ?_
    show own_S p e below T115 (mkF m 133 _ [(.double r0)]) _
    refine XS.dstore X115.here hx rfl (hb hby d6_133) rfl (l' := #[.val (.ref a0), .val (.ref a1), .val (.ref b3), .val (.ref b66), .val (.int (0 : Int32)), .val (.ref ra), .val (.ref ca), .val (.double r0), .second, .val (.int (2 : Int32))]) rfl ?_
    show own_S p e below T115 (mkF m 135 _ []) _
    refine XS.iconst X115.here hx rfl (hb hby d6_135) ?_
    show own_S p e below T115 (mkF m 136 _ [(.int (1 : Int32))]) _
    refine XS.istore X115.here hx rfl (hb hby d6_136) rfl (l' := #[.val (.ref a0), .val (.ref a1), .val (.ref b3), .val (.ref b66), .val (.int (0 : Int32)), .val (.ref ra), .val (.ref ca), .val (.double r0), .second, .val (.int (1 : Int32))]) rfl ?_
    show own_S p e below T115 (mkF m 138 _ []) _
    refine XS.iload X115.here hx rfl (hb hby d6_138) rfl ?_
    show own_S p e below T115 (mkF m 140 _ [(.int (1 : Int32))]) _
    refine XS.aload X115.here hx rfl (hb hby d6_140) rfl rfl ?_
    show own_S p e below T115 (mkF m 142 _ [(.ref ra), (.int (1 : Int32))]) _
    exact kt
  have f123 := ((f62.ext E66).other W105 ne_ra_b66)
  obtain ⟨cl124, Ar124, qq124, S124, M124, H124, GG124⟩ := id f123
  have K125 : own_K p e below G0 T115 (mkF m 152 #[.val (.ref a0), .val (.ref a1), .val (.ref b3), .val (.ref b66), .val (.int (0 : Int32)), .val (.ref ra), .val (.ref ca), .val (.double r0), .second, .val (.int (1 : Int32))] [(.int (1 : Int32)), (.ref ca), (.double r0)]) := by
    intro t kt
    refine K122 t ?_
    refine X115.arraylength hx (by rw [e115]; exact (Ar124).1) (State.isArrayOf_alike hZ.alike (Ar124).2.1) (g := (mkF m 142 #[.val (.ref a0), .val (.ref a1), .val (.ref b3), .val (.ref b66), .val (.int (0 : Int32)), .val (.ref ra), .val (.ref ca), .val (.double r0), .second, .val (.int (1 : Int32))] [(.ref ra), (.int (1 : Int32))])) rfl rfl (hb hby d6_142) _ ?_
    rw [len_of S124 M124]
    show own_S p e below T115 (mkF m 143 #[.val (.ref a0), .val (.ref a1), .val (.ref b3), .val (.ref b66), .val (.int (0 : Int32)), .val (.ref ra), .val (.ref ca), .val (.double r0), .second, .val (.int (1 : Int32))] [(.int (3 : Int32)), (.int (1 : Int32))]) _
    refine XS.icmpNo X115.here hx rfl (hb hby d6_143) rfl (tlt (by decide)).2.1 ?_
    show own_S p e below T115 (mkF m 146 _ []) _
    refine XS.dload X115.here hx rfl (hb hby d6_146) rfl ?_
    show own_S p e below T115 (mkF m 148 _ [(.double r0)]) _
    refine XS.aload X115.here hx rfl (hb hby d6_148) rfl rfl ?_
    show own_S p e below T115 (mkF m 150 _ [(.ref ca), (.double r0)]) _
    refine XS.iload X115.here hx rfl (hb hby d6_150) rfl ?_
    show own_S p e below T115 (mkF m 152 _ [(.int (1 : Int32)), (.ref ca), (.double r0)]) _
    exact kt
  have f126 := ((f63.ext E66).other W105 ne_ca_b66)
  obtain ⟨cl127, Ar127, qq127, S127, M127, H127, GG127⟩ := id f126
  have hin127 : ¬ ((1 : Int32) < 0 ∨ cl127.slots.size ≤ ((1 : Int32)).toNatClampNeg) := inb_of S127 ⟨by decide, by decide⟩
  have hat127 : cl127.slots[((1 : Int32)).toNatClampNeg]? = some (.double db) := Has.at H127 hin127 rfl
  have K128 : own_K p e below G0 T115 (mkF m 158 #[.val (.ref a0), .val (.ref a1), .val (.ref b3), .val (.ref b66), .val (.int (0 : Int32)), .val (.ref ra), .val (.ref ca), .val (.double r0), .second, .val (.int (1 : Int32))] [(.int (1 : Int32)), (.ref ra), (.ref b66), (.double db), (.double r0)]) := by
    intro t kt
    refine K125 t ?_
    refine X115.daload hx (j := (1 : Int32)) (v := (.double db)) (by rw [e115]; exact (Ar127).1) (State.isArrayOf_alike hZ.alike (Ar127).2.1) (Ar127).2.2 hin127 hat127 (g := (mkF m 152 #[.val (.ref a0), .val (.ref a1), .val (.ref b3), .val (.ref b66), .val (.int (0 : Int32)), .val (.ref ra), .val (.ref ca), .val (.double r0), .second, .val (.int (1 : Int32))] [(.int (1 : Int32)), (.ref ca), (.double r0)])) rfl rfl (hb hby d6_152) _ ?_
    show own_S p e below T115 (mkF m 153 _ [(.double db), (.double r0)]) _
    refine XS.aloadN X115.here hx rfl (hb hby d6_153) rfl rfl ?_
    show own_S p e below T115 (mkF m 154 _ [(.ref b66), (.double db), (.double r0)]) _
    refine XS.aload X115.here hx rfl (hb hby d6_154) rfl rfl ?_
    show own_S p e below T115 (mkF m 156 _ [(.ref ra), (.ref b66), (.double db), (.double r0)]) _
    refine XS.iload X115.here hx rfl (hb hby d6_156) rfl ?_
    show own_S p e below T115 (mkF m 158 _ [(.int (1 : Int32)), (.ref ra), (.ref b66), (.double db), (.double r0)]) _
    exact kt
  obtain ⟨cl129, Ar129, qq129, S129, M129, H129, GG129⟩ := id f123
  have hin129 : ¬ ((1 : Int32) < 0 ∨ cl129.slots.size ≤ ((1 : Int32)).toNatClampNeg) := inb_of S129 ⟨by decide, by decide⟩
  have hat129 : cl129.slots[((1 : Int32)).toNatClampNeg]? = some (.int g1) := Has.at H129 hin129 rfl
  have K130 : own_K p e below G0 T115 (mkF m 159 #[.val (.ref a0), .val (.ref a1), .val (.ref b3), .val (.ref b66), .val (.int (0 : Int32)), .val (.ref ra), .val (.ref ca), .val (.double r0), .second, .val (.int (1 : Int32))] [(.int g1), (.ref b66), (.double db), (.double r0)]) := by
    intro t kt
    refine K128 t ?_
    refine X115.iaload hx (j := (1 : Int32)) (v := (.int g1)) (by rw [e115]; exact (Ar129).1) (State.isArrayOf_alike hZ.alike (Ar129).2.1) (Ar129).2.2 hin129 hat129 (g := (mkF m 158 #[.val (.ref a0), .val (.ref a1), .val (.ref b3), .val (.ref b66), .val (.int (0 : Int32)), .val (.ref ra), .val (.ref ca), .val (.double r0), .second, .val (.int (1 : Int32))] [(.int (1 : Int32)), (.ref ra), (.ref b66), (.double db), (.double r0)])) rfl rfl (hb hby d6_158) _ ?_
    show own_S p e below T115 (mkF m 159 _ [(.int g1), (.ref b66), (.double db), (.double r0)]) _
    exact kt
  obtain ⟨cl131, Ar131, qq131, S131, M131, H131, GG131⟩ := id VL105
  have hin131 := inb_of S131 (own_in3 hR1)
  have hat131 : cl131.slots[(g1).toNatClampNeg]? = some (.double (FP.ddiv (FP.dsub r1 (FP.dmul dd 0)) dc)) := Has.at H131 hin131 ((own_g3 hR1).trans own_u1)
  have K132 : own_K p e below G0 T115 (mkF m 167 #[.val (.ref a0), .val (.ref a1), .val (.ref b3), .val (.ref b66), .val (.int (0 : Int32)), .val (.ref ra), .val (.ref ca), .val (.double (FP.dsub r0 (FP.dmul db (FP.ddiv (FP.dsub r1 (FP.dmul dd 0)) dc)))), .second, .val (.int ((1 : Int32) + (1 : Int32)))] []) := by
    intro t kt
    refine K130 t ?_
    refine X115.daload hx (j := g1) (v := (.double (FP.ddiv (FP.dsub r1 (FP.dmul dd 0)) dc))) (by rw [e115]; exact (Ar131).1) (State.isArrayOf_alike hZ.alike (Ar131).2.1) (Ar131).2.2 hin131 hat131 (g := (mkF m 159 #[.val (.ref a0), .val (.ref a1), .val (.ref b3), .val (.ref b66), .val (.int (0 : Int32)), .val (.ref ra), .val (.ref ca), .val (.double r0), .second, .val (.int (1 : Int32))] [(.int g1), (.ref b66), (.double db), (.double r0)])) rfl rfl (hb hby d6_159) _ ?_
    show own_S p e below T115 (mkF m 160 _ [(.double (FP.ddiv (FP.dsub r1 (FP.dmul dd 0)) dc)), (.double db), (.double r0)]) _
    refine XS.dmulS X115.here hx rfl (hb hby d6_160) rfl (own_V_nonan qe) rfl ?_
    show own_S p e below T115 (mkF m 161 _ [(.double (FP.dmul db (FP.ddiv (FP.dsub r1 (FP.dmul dd 0)) dc))), (.double r0)]) _
    refine XS.dsubS X115.here hx rfl (hb hby d6_161) rfl (own_V_nonan qf) rfl ?_
    show own_S p e below T115 (mkF m 162 _ [(.double (FP.dsub r0 (FP.dmul db (FP.ddiv (FP.dsub r1 (FP.dmul dd 0)) dc))))]) _
    refine XS.dstore X115.here hx rfl (hb hby d6_162) rfl (l' := #[.val (.ref a0), .val (.ref a1), .val (.ref b3), .val (.ref b66), .val (.int (0 : Int32)), .val (.ref ra), .val (.ref ca), .val (.double (FP.dsub r0 (FP.dmul db (FP.ddiv (FP.dsub r1 (FP.dmul dd 0)) dc)))), .second, .val (.int (1 : Int32))]) rfl ?_
    show own_S p e below T115 (mkF m 164 _ []) _
    refine XS.iinc X115.here hx rfl (hb hby d6_164) rfl (l' := #[.val (.ref a0), .val (.ref a1), .val (.ref b3), .val (.ref b66), .val (.int (0 : Int32)), .val (.ref ra), .val (.ref ca), .val (.double (FP.dsub r0 (FP.dmul db (FP.ddiv (FP.dsub r1 (FP.dmul dd 0)) dc)))), .second, .val (.int ((1 : Int32) + (1 : Int32)))]) rfl ?_
    show own_S p e below T115 (mkF m 167 _ []) _
    exact kt
  rw [show ((1 : Int32) + (1 : Int32)) = (2 : Int32) from by decide] at K132
  have K133 : own_K p e below G0 T115 (mkF m 142 #[.val (.ref a0), .val (.ref a1), .val (.ref b3), .val (.ref b66), .val (.int (0 : Int32)), .val (.ref ra), .val (.ref ca), .val (.double (FP.dsub r0 (FP.dmul db (FP.ddiv (FP.dsub r1 (FP.dmul dd 0)) dc)))), .second, .val (.int (2 : Int32))] [(.ref ra), (.int (2 : Int32))]) := by
    intro t kt
    refine K132 t ?_
    refine XS.goto X115.here hx rfl (pc0 := 167) (pc' := 138) rfl (hb hby d6_167) (by decide) (by decide) ?_
    show own_S p e below T115 (mkF m 138 _ []) _
    refine XS.iload X115.here hx rfl (hb hby d6_138) rfl ?_
    show own_S p e below T115 (mkF m 140 _ [(.int (2 : Int32))]) _
    refine XS.aload X115.here hx rfl (hb hby d6_140) rfl rfl ?_
    show own_S p e below T115 (mkF m 142 _ [(.ref ra), (.int (2 : Int32))]) _
    exact kt
  obtain ⟨cl134, Ar134, qq134, S134, M134, H134, GG134⟩ := id f123
  have K135 : own_K p e below G0 T115 (mkF m 152 #[.val (.ref a0), .val (.ref a1), .val (.ref b3), .val (.ref b66), .val (.int (0 : Int32)), .val (.ref ra), .val (.ref ca), .val (.double (FP.dsub r0 (FP.dmul db (FP.ddiv (FP.dsub r1 (FP.dmul dd 0)) dc)))), .second, .val (.int (2 : Int32))] [(.int (2 : Int32)), (.ref ca), (.double (FP.dsub r0 (FP.dmul db (FP.ddiv (FP.dsub r1 (FP.dmul dd 0)) dc))))]) := by
    intro t kt
    refine K133 t ?_
    refine X115.arraylength hx (by rw [e115]; exact (Ar134).1) (State.isArrayOf_alike hZ.alike (Ar134).2.1) (g := (mkF m 142 #[.val (.ref a0), .val (.ref a1), .val (.ref b3), .val (.ref b66), .val (.int (0 : Int32)), .val (.ref ra), .val (.ref ca), .val (.double (FP.dsub r0 (FP.dmul db (FP.ddiv (FP.dsub r1 (FP.dmul dd 0)) dc)))), .second, .val (.int (2 : Int32))] [(.ref ra), (.int (2 : Int32))])) rfl rfl (hb hby d6_142) _ ?_
    rw [len_of S134 M134]
    show own_S p e below T115 (mkF m 143 #[.val (.ref a0), .val (.ref a1), .val (.ref b3), .val (.ref b66), .val (.int (0 : Int32)), .val (.ref ra), .val (.ref ca), .val (.double (FP.dsub r0 (FP.dmul db (FP.ddiv (FP.dsub r1 (FP.dmul dd 0)) dc)))), .second, .val (.int (2 : Int32))] [(.int (3 : Int32)), (.int (2 : Int32))]) _
    refine XS.icmpNo X115.here hx rfl (hb hby d6_143) rfl (tlt (by decide)).2.1 ?_
    show own_S p e below T115 (mkF m 146 _ []) _
    refine XS.dload X115.here hx rfl (hb hby d6_146) rfl ?_
    show own_S p e below T115 (mkF m 148 _ [(.double (FP.dsub r0 (FP.dmul db (FP.ddiv (FP.dsub r1 (FP.dmul dd 0)) dc))))]) _
    refine XS.aload X115.here hx rfl (hb hby d6_148) rfl rfl ?_
    show own_S p e below T115 (mkF m 150 _ [(.ref ca), (.double (FP.dsub r0 (FP.dmul db (FP.ddiv (FP.dsub r1 (FP.dmul dd 0)) dc))))]) _
    refine XS.iload X115.here hx rfl (hb hby d6_150) rfl ?_
    show own_S p e below T115 (mkF m 152 _ [(.int (2 : Int32)), (.ref ca), (.double (FP.dsub r0 (FP.dmul db (FP.ddiv (FP.dsub r1 (FP.dmul dd 0)) dc))))]) _
    exact kt
  obtain ⟨cl136, Ar136, qq136, S136, M136, H136, GG136⟩ := id f126
  have hin136 : ¬ ((2 : Int32) < 0 ∨ cl136.slots.size ≤ ((2 : Int32)).toNatClampNeg) := inb_of S136 ⟨by decide, by decide⟩
  have hat136 : cl136.slots[((2 : Int32)).toNatClampNeg]? = some (.double dd) := Has.at H136 hin136 rfl
  have K137 : own_K p e below G0 T115 (mkF m 158 #[.val (.ref a0), .val (.ref a1), .val (.ref b3), .val (.ref b66), .val (.int (0 : Int32)), .val (.ref ra), .val (.ref ca), .val (.double (FP.dsub r0 (FP.dmul db (FP.ddiv (FP.dsub r1 (FP.dmul dd 0)) dc)))), .second, .val (.int (2 : Int32))] [(.int (2 : Int32)), (.ref ra), (.ref b66), (.double dd), (.double (FP.dsub r0 (FP.dmul db (FP.ddiv (FP.dsub r1 (FP.dmul dd 0)) dc))))]) := by
    intro t kt
    refine K135 t ?_
    refine X115.daload hx (j := (2 : Int32)) (v := (.double dd)) (by rw [e115]; exact (Ar136).1) (State.isArrayOf_alike hZ.alike (Ar136).2.1) (Ar136).2.2 hin136 hat136 (g := (mkF m 152 #[.val (.ref a0), .val (.ref a1), .val (.ref b3), .val (.ref b66), .val (.int (0 : Int32)), .val (.ref ra), .val (.ref ca), .val (.double (FP.dsub r0 (FP.dmul db (FP.ddiv (FP.dsub r1 (FP.dmul dd 0)) dc)))), .second, .val (.int (2 : Int32))] [(.int (2 : Int32)), (.ref ca), (.double (FP.dsub r0 (FP.dmul db (FP.ddiv (FP.dsub r1 (FP.dmul dd 0)) dc))))])) rfl rfl (hb hby d6_152) _ ?_
    show own_S p e below T115 (mkF m 153 _ [(.double dd), (.double (FP.dsub r0 (FP.dmul db (FP.ddiv (FP.dsub r1 (FP.dmul dd 0)) dc))))]) _
    refine XS.aloadN X115.here hx rfl (hb hby d6_153) rfl rfl ?_
    show own_S p e below T115 (mkF m 154 _ [(.ref b66), (.double dd), (.double (FP.dsub r0 (FP.dmul db (FP.ddiv (FP.dsub r1 (FP.dmul dd 0)) dc))))]) _
    refine XS.aload X115.here hx rfl (hb hby d6_154) rfl rfl ?_
    show own_S p e below T115 (mkF m 156 _ [(.ref ra), (.ref b66), (.double dd), (.double (FP.dsub r0 (FP.dmul db (FP.ddiv (FP.dsub r1 (FP.dmul dd 0)) dc))))]) _
    refine XS.iload X115.here hx rfl (hb hby d6_156) rfl ?_
    show own_S p e below T115 (mkF m 158 _ [(.int (2 : Int32)), (.ref ra), (.ref b66), (.double dd), (.double (FP.dsub r0 (FP.dmul db (FP.ddiv (FP.dsub r1 (FP.dmul dd 0)) dc))))]) _
    exact kt
  obtain ⟨cl138, Ar138, qq138, S138, M138, H138, GG138⟩ := id f123
  have hin138 : ¬ ((2 : Int32) < 0 ∨ cl138.slots.size ≤ ((2 : Int32)).toNatClampNeg) := inb_of S138 ⟨by decide, by decide⟩
  have hat138 : cl138.slots[((2 : Int32)).toNatClampNeg]? = some (.int gf) := Has.at H138 hin138 rfl
  have K139 : own_K p e below G0 T115 (mkF m 159 #[.val (.ref a0), .val (.ref a1), .val (.ref b3), .val (.ref b66), .val (.int (0 : Int32)), .val (.ref ra), .val (.ref ca), .val (.double (FP.dsub r0 (FP.dmul db (FP.ddiv (FP.dsub r1 (FP.dmul dd 0)) dc)))), .second, .val (.int (2 : Int32))] [(.int gf), (.ref b66), (.double dd), (.double (FP.dsub r0 (FP.dmul db (FP.ddiv (FP.dsub r1 (FP.dmul dd 0)) dc))))]) := by
    intro t kt
    refine K137 t ?_
    refine X115.iaload hx (j := (2 : Int32)) (v := (.int gf)) (by rw [e115]; exact (Ar138).1) (State.isArrayOf_alike hZ.alike (Ar138).2.1) (Ar138).2.2 hin138 hat138 (g := (mkF m 158 #[.val (.ref a0), .val (.ref a1), .val (.ref b3), .val (.ref b66), .val (.int (0 : Int32)), .val (.ref ra), .val (.ref ca), .val (.double (FP.dsub r0 (FP.dmul db (FP.ddiv (FP.dsub r1 (FP.dmul dd 0)) dc)))), .second, .val (.int (2 : Int32))] [(.int (2 : Int32)), (.ref ra), (.ref b66), (.double dd), (.double (FP.dsub r0 (FP.dmul db (FP.ddiv (FP.dsub r1 (FP.dmul dd 0)) dc))))])) rfl rfl (hb hby d6_158) _ ?_
    show own_S p e below T115 (mkF m 159 _ [(.int gf), (.ref b66), (.double dd), (.double (FP.dsub r0 (FP.dmul db (FP.ddiv (FP.dsub r1 (FP.dmul dd 0)) dc))))]) _
    exact kt
  obtain ⟨cl140, Ar140, qq140, S140, M140, H140, GG140⟩ := id VL105
  have hin140 := inb_of S140 (own_in3 hRf)
  have hat140 : cl140.slots[(gf).toNatClampNeg]? = some (.double 0) := Has.at H140 hin140 ((own_g3 hRf).trans ((own_u2 (Ne.symm n1f)).trans rfl))
  have K141 : own_K p e below G0 T115 (mkF m 167 #[.val (.ref a0), .val (.ref a1), .val (.ref b3), .val (.ref b66), .val (.int (0 : Int32)), .val (.ref ra), .val (.ref ca), .val (.double (FP.dsub (FP.dsub r0 (FP.dmul db (FP.ddiv (FP.dsub r1 (FP.dmul dd 0)) dc))) (FP.dmul dd 0))), .second, .val (.int ((2 : Int32) + (1 : Int32)))] []) := by
    intro t kt
    refine K139 t ?_
    refine X115.daload hx (j := gf) (v := (.double 0)) (by rw [e115]; exact (Ar140).1) (State.isArrayOf_alike hZ.alike (Ar140).2.1) (Ar140).2.2 hin140 hat140 (g := (mkF m 159 #[.val (.ref a0), .val (.ref a1), .val (.ref b3), .val (.ref b66), .val (.int (0 : Int32)), .val (.ref ra), .val (.ref ca), .val (.double (FP.dsub r0 (FP.dmul db (FP.ddiv (FP.dsub r1 (FP.dmul dd 0)) dc)))), .second, .val (.int (2 : Int32))] [(.int gf), (.ref b66), (.double dd), (.double (FP.dsub r0 (FP.dmul db (FP.ddiv (FP.dsub r1 (FP.dmul dd 0)) dc))))])) rfl rfl (hb hby d6_159) _ ?_
    show own_S p e below T115 (mkF m 160 _ [(.double 0), (.double dd), (.double (FP.dsub r0 (FP.dmul db (FP.ddiv (FP.dsub r1 (FP.dmul dd 0)) dc))))]) _
    refine XS.dmulS X115.here hx rfl (hb hby d6_160) rfl (own_V_nonan qc) rfl ?_
    show own_S p e below T115 (mkF m 161 _ [(.double (FP.dmul dd 0)), (.double (FP.dsub r0 (FP.dmul db (FP.ddiv (FP.dsub r1 (FP.dmul dd 0)) dc))))]) _
    refine XS.dsubS X115.here hx rfl (hb hby d6_161) rfl (own_V_nonan qh) rfl ?_
    show own_S p e below T115 (mkF m 162 _ [(.double (FP.dsub (FP.dsub r0 (FP.dmul db (FP.ddiv (FP.dsub r1 (FP.dmul dd 0)) dc))) (FP.dmul dd 0)))]) _
    refine XS.dstore X115.here hx rfl (hb hby d6_162) rfl (l' := #[.val (.ref a0), .val (.ref a1), .val (.ref b3), .val (.ref b66), .val (.int (0 : Int32)), .val (.ref ra), .val (.ref ca), .val (.double (FP.dsub (FP.dsub r0 (FP.dmul db (FP.ddiv (FP.dsub r1 (FP.dmul dd 0)) dc))) (FP.dmul dd 0))), .second, .val (.int (2 : Int32))]) rfl ?_
    show own_S p e below T115 (mkF m 164 _ []) _
    refine XS.iinc X115.here hx rfl (hb hby d6_164) rfl (l' := #[.val (.ref a0), .val (.ref a1), .val (.ref b3), .val (.ref b66), .val (.int (0 : Int32)), .val (.ref ra), .val (.ref ca), .val (.double (FP.dsub (FP.dsub r0 (FP.dmul db (FP.ddiv (FP.dsub r1 (FP.dmul dd 0)) dc))) (FP.dmul dd 0))), .second, .val (.int ((2 : Int32) + (1 : Int32)))]) rfl ?_
    show own_S p e below T115 (mkF m 167 _ []) _
    exact kt
  rw [show ((2 : Int32) + (1 : Int32)) = (3 : Int32) from by decide] at K141
  have K142 : own_K p e below G0 T115 (mkF m 142 #[.val (.ref a0), .val (.ref a1), .val (.ref b3), .val (.ref b66), .val (.int (0 : Int32)), .val (.ref ra), .val (.ref ca), .val (.double (FP.dsub (FP.dsub r0 (FP.dmul db (FP.ddiv (FP.dsub r1 (FP.dmul dd 0)) dc))) (FP.dmul dd 0))), .second, .val (.int (3 : Int32))] [(.ref ra), (.int (3 : Int32))]) := by
    intro t kt
    refine K141 t ?_
    refine XS.goto X115.here hx rfl (pc0 := 167) (pc' := 138) rfl (hb hby d6_167) (by decide) (by decide) ?_
    show own_S p e below T115 (mkF m 138 _ []) _
    refine XS.iload X115.here hx rfl (hb hby d6_138) rfl ?_
    show own_S p e below T115 (mkF m 140 _ [(.int (3 : Int32))]) _
    refine XS.aload X115.here hx rfl (hb hby d6_140) rfl rfl ?_
    show own_S p e below T115 (mkF m 142 _ [(.ref ra), (.int (3 : Int32))]) _
    exact kt
  obtain ⟨cl143, Ar143, qq143, S143, M143, H143, GG143⟩ := id f123
  have K144 : own_K p e below G0 T115 (mkF m 174 #[.val (.ref a0), .val (.ref a1), .val (.ref b3), .val (.ref b66), .val (.int (0 : Int32)), .val (.ref ra), .val (.ref ca), .val (.double (FP.dsub (FP.dsub r0 (FP.dmul db (FP.ddiv (FP.dsub r1 (FP.dmul dd 0)) dc))) (FP.dmul dd 0))), .second, .val (.int (3 : Int32))] [(.int (0 : Int32)), (.ref ra), (.ref b66)]) := by
    intro t kt
    refine K142 t ?_
    refine X115.arraylength hx (by rw [e115]; exact (Ar143).1) (State.isArrayOf_alike hZ.alike (Ar143).2.1) (g := (mkF m 142 #[.val (.ref a0), .val (.ref a1), .val (.ref b3), .val (.ref b66), .val (.int (0 : Int32)), .val (.ref ra), .val (.ref ca), .val (.double (FP.dsub (FP.dsub r0 (FP.dmul db (FP.ddiv (FP.dsub r1 (FP.dmul dd 0)) dc))) (FP.dmul dd 0))), .second, .val (.int (3 : Int32))] [(.ref ra), (.int (3 : Int32))])) rfl rfl (hb hby d6_142) _ ?_
    rw [len_of S143 M143]
    show own_S p e below T115 (mkF m 143 #[.val (.ref a0), .val (.ref a1), .val (.ref b3), .val (.ref b66), .val (.int (0 : Int32)), .val (.ref ra), .val (.ref ca), .val (.double (FP.dsub (FP.dsub r0 (FP.dmul db (FP.ddiv (FP.dsub r1 (FP.dmul dd 0)) dc))) (FP.dmul dd 0))), .second, .val (.int (3 : Int32))] [(.int (3 : Int32)), (.int (3 : Int32))]) _
    refine XS.icmpYes X115.here hx rfl (pc0 := 143) (pc' := 170) rfl (hb hby d6_143) rfl (flt (by decide)).2.1 (by decide) (by decide) ?_
    show own_S p e below T115 (mkF m 170 _ []) _
    refine XS.aloadN X115.here hx rfl (hb hby d6_170) rfl rfl ?_
    show own_S p e below T115 (mkF m 171 _ [(.ref b66)]) _
    refine XS.aload X115.here hx rfl (hb hby d6_171) rfl rfl ?_
    show own_S p e below T115 (mkF m 173 _ [(.ref ra), (.ref b66)]) _
    refine XS.iconst X115.here hx rfl (hb hby d6_173) ?_
    show own_S p e below T115 (mkF m 174 _ [(.int (0 : Int32)), (.ref ra), (.ref b66)]) _
    exact kt
  obtain ⟨cl145, Ar145, qq145, S145, M145, H145, GG145⟩ := id f123
  have hin145 : ¬ ((0 : Int32) < 0 ∨ cl145.slots.size ≤ ((0 : Int32)).toNatClampNeg) := inb_of S145 ⟨by decide, by decide⟩
  have hat145 : cl145.slots[((0 : Int32)).toNatClampNeg]? = some (.int g0) := Has.at H145 hin145 rfl
  have K146 : own_K p e below G0 T115 (mkF m 180 #[.val (.ref a0), .val (.ref a1), .val (.ref b3), .val (.ref b66), .val (.int (0 : Int32)), .val (.ref ra), .val (.ref ca), .val (.double (FP.dsub (FP.dsub r0 (FP.dmul db (FP.ddiv (FP.dsub r1 (FP.dmul dd 0)) dc))) (FP.dmul dd 0))), .second, .val (.int (3 : Int32))] [(.int (0 : Int32)), (.ref ca), (.double (FP.dsub (FP.dsub r0 (FP.dmul db (FP.ddiv (FP.dsub r1 (FP.dmul dd 0)) dc))) (FP.dmul dd 0))), (.int g0), (.ref b66)]) := by
    intro t kt
    refine K144 t ?_
    refine X115.iaload hx (j := (0 : Int32)) (v := (.int g0)) (by rw [e115]; exact (Ar145).1) (State.isArrayOf_alike hZ.alike (Ar145).2.1) (Ar145).2.2 hin145 hat145 (g := (mkF m 174 #[.val (.ref a0), .val (.ref a1), .val (.ref b3), .val (.ref b66), .val (.int (0 : Int32)), .val (.ref ra), .val (.ref ca), .val (.double (FP.dsub (FP.dsub r0 (FP.dmul db (FP.ddiv (FP.dsub r1 (FP.dmul dd 0)) dc))) (FP.dmul dd 0))), .second, .val (.int (3 : Int32))] [(.int (0 : Int32)), (.ref ra), (.ref b66)])) rfl rfl (hb hby d6_174) _ ?_
    show own_S p e below T115 (mkF m 175 _ [(.int g0), (.ref b66)]) _
    refine XS.dload X115.here hx rfl (hb hby d6_175) rfl ?_
    show own_S p e below T115 (mkF m 177 _ [(.double (FP.dsub (FP.dsub r0 (FP.dmul db (FP.ddiv (FP.dsub r1 (FP.dmul dd 0)) dc))) (FP.dmul dd 0))), (.int g0), (.ref b66)]) _
    refine XS.aload X115.here hx rfl (hb hby d6_177) rfl rfl ?_
    show own_S p e below T115 (mkF m 179 _ [(.ref ca), (.double (FP.dsub (FP.dsub r0 (FP.dmul db (FP.ddiv (FP.dsub r1 (FP.dmul dd 0)) dc))) (FP.dmul dd 0))), (.int g0), (.ref b66)]) _
    refine XS.iconst X115.here hx rfl (hb hby d6_179) ?_
    show own_S p e below T115 (mkF m 180 _ [(.int (0 : Int32)), (.ref ca), (.double (FP.dsub (FP.dsub r0 (FP.dmul db (FP.ddiv (FP.dsub r1 (FP.dmul dd 0)) dc))) (FP.dmul dd 0))), (.int g0), (.ref b66)]) _
    exact kt
  obtain ⟨cl147, Ar147, qq147, S147, M147, H147, GG147⟩ := id f126
  have hin147 : ¬ ((0 : Int32) < 0 ∨ cl147.slots.size ≤ ((0 : Int32)).toNatClampNeg) := inb_of S147 ⟨by decide, by decide⟩
  have hat147 : cl147.slots[((0 : Int32)).toNatClampNeg]? = some (.double da) := Has.at H147 hin147 rfl
  have K148 : own_K p e below G0 T115 (mkF m 182 #[.val (.ref a0), .val (.ref a1), .val (.ref b3), .val (.ref b66), .val (.int (0 : Int32)), .val (.ref ra), .val (.ref ca), .val (.double (FP.dsub (FP.dsub r0 (FP.dmul db (FP.ddiv (FP.dsub r1 (FP.dmul dd 0)) dc))) (FP.dmul dd 0))), .second, .val (.int (3 : Int32))] [(.double (FP.ddiv (FP.dsub (FP.dsub r0 (FP.dmul db (FP.ddiv (FP.dsub r1 (FP.dmul dd 0)) dc))) (FP.dmul dd 0)) da)), (.int g0), (.ref b66)]) := by
    intro t kt
    refine K146 t ?_
    refine X115.daload hx (j := (0 : Int32)) (v := (.double da)) (by rw [e115]; exact (Ar147).1) (State.isArrayOf_alike hZ.alike (Ar147).2.1) (Ar147).2.2 hin147 hat147 (g := (mkF m 180 #[.val (.ref a0), .val (.ref a1), .val (.ref b3), .val (.ref b66), .val (.int (0 : Int32)), .val (.ref ra), .val (.ref ca), .val (.double (FP.dsub (FP.dsub r0 (FP.dmul db (FP.ddiv (FP.dsub r1 (FP.dmul dd 0)) dc))) (FP.dmul dd 0))), .second, .val (.int (3 : Int32))] [(.int (0 : Int32)), (.ref ca), (.double (FP.dsub (FP.dsub r0 (FP.dmul db (FP.ddiv (FP.dsub r1 (FP.dmul dd 0)) dc))) (FP.dmul dd 0))), (.int g0), (.ref b66)])) rfl rfl (hb hby d6_180) _ ?_
    show own_S p e below T115 (mkF m 181 _ [(.double da), (.double (FP.dsub (FP.dsub r0 (FP.dmul db (FP.ddiv (FP.dsub r1 (FP.dmul dd 0)) dc))) (FP.dmul dd 0))), (.int g0), (.ref b66)]) _
    refine XS.ddivS X115.here hx rfl (hb hby d6_181) rfl (own_V_nonan qy) rfl ?_
    show own_S p e below T115 (mkF m 182 _ [(.double (FP.ddiv (FP.dsub (FP.dsub r0 (FP.dmul db (FP.ddiv (FP.dsub r1 (FP.dmul dd 0)) dc))) (FP.dmul dd 0)) da)), (.int g0), (.ref b66)]) _
    exact kt
  obtain ⟨cl149, Ar149, qq149, S149, M149, H149, GG149⟩ := id VL105
  have hin149 := inb_of S149 (own_in3 hR0)
  obtain ⟨T150, h150, X150, e150, W150, st150⟩ := stD X115 hx hZ e115 Ar149 (j := g0) hin149 (g := (mkF m 182 #[.val (.ref a0), .val (.ref a1), .val (.ref b3), .val (.ref b66), .val (.int (0 : Int32)), .val (.ref ra), .val (.ref ca), .val (.double (FP.dsub (FP.dsub r0 (FP.dmul db (FP.ddiv (FP.dsub r1 (FP.dmul dd 0)) dc))) (FP.dmul dd 0))), .second, .val (.int (3 : Int32))] [(.double (FP.ddiv (FP.dsub (FP.dsub r0 (FP.dmul db (FP.ddiv (FP.dsub r1 (FP.dmul dd 0)) dc))) (FP.dmul dd 0)) da)), (.int g0), (.ref b66)])) rfl rfl (hb hby d6_182)
  have K150 : own_K p e below G0 T150 (mkF m 183 #[.val (.ref a0), .val (.ref a1), .val (.ref b3), .val (.ref b66), .val (.int (0 : Int32)), .val (.ref ra), .val (.ref ca), .val (.double (FP.dsub (FP.dsub r0 (FP.dmul db (FP.ddiv (FP.dsub r1 (FP.dmul dd 0)) dc))) (FP.dmul dd 0))), .second, .val (.int (3 : Int32))] []) := fun t kt => K148 t (st150 _ kt)
  have Z150 : n0 ≤ h150.size := Nat.le_trans Z105 (Keep.of_wr W150).1
  have VL150 : Arv Z h150 b66 k66 .double (3 : Int32) (own_l3 (own_u g0 (.double (FP.ddiv (FP.dsub (FP.dsub r0 (FP.dmul db (FP.ddiv (FP.dsub r1 (FP.dmul dd 0)) dc))) (FP.dmul dd 0)) da)) (own_u g1 (.double (FP.ddiv (FP.dsub r1 (FP.dmul dd 0)) dc)) (fun _ => (.double 0))))) (.double 0) := by
    rw [← own_s3 hR0]
    exact Arv.set Ar149 qq149 S149 M149 H149 GG149 rfl W150 (g0).toNatClampNeg rfl (own_n3 hR0)
  have N150 := Fr.snoc X150 N105 gn66
  have K151 : own_K p e below G0 T150 (mkF m 186 #[.val (.ref a0), .val (.ref a1), .val (.ref b3), .val (.ref b66), .val (.int ((0 : Int32) + (-1 : Int32))), .val (.ref ra), .val (.ref ca), .val (.double (FP.dsub (FP.dsub r0 (FP.dmul db (FP.ddiv (FP.dsub r1 (FP.dmul dd 0)) dc))) (FP.dmul dd 0))), .second, .val (.int (3 : Int32))] []) := by
    intro t kt
    refine K150 t ?_
    refine XS.iinc X150.here hx rfl (hb hby d6_183) rfl (l' := #[.val (.ref a0), .val (.ref a1), .val (.ref b3), .val (.ref b66), .val (.int ((0 : Int32) + (-1 : Int32))), .val (.ref ra), .val (.ref ca), .val (.double (FP.dsub (FP.dsub r0 (FP.dmul db (FP.ddiv (FP.dsub r1 (FP.dmul dd 0)) dc))) (FP.dmul dd 0))), .second, .val (.int (3 : Int32))]) rfl ?_
    show own_S p e below T150 (mkF m 186 _ []) _
    exact kt
  rw [show ((0 : Int32) + (-1 : Int32)) = (-1 : Int32) from by decide] at K151
  have K152 : own_K p e below G0 T150 (mkF m 190 #[.val (.ref a0), .val (.ref a1), .val (.ref b3), .val (.ref b66), .val (.int (-1 : Int32)), .val (.ref ra), .val (.ref ca), .val (.double (FP.dsub (FP.dsub r0 (FP.dmul db (FP.ddiv (FP.dsub r1 (FP.dmul dd 0)) dc))) (FP.dmul dd 0))), .second, .val (.int (3 : Int32))] [(.ref b66)]) := by
    intro t kt
    refine K151 t ?_
    refine XS.goto X150.here hx rfl (pc0 := 186) (pc' := 106) rfl (hb hby d6_186) (by decide) (by decide) ?_
    show own_S p e below T150 (mkF m 106 _ []) _
    refine XS.iload X150.here hx rfl (hb hby d6_106) rfl ?_
    show own_S p e below T150 (mkF m 108 _ [(.int (-1 : Int32))]) _
    refine XS.ifYes X150.here hx rfl (pc0 := 108) (pc' := 189) rfl (hb hby d6_108) rfl ((if0 _ _).trans (tlt (by decide)).1) (by decide) (by decide) ?_
    show own_S p e below T150 (mkF m 189 _ []) _
    refine XS.aloadN X150.here hx rfl (hb hby d6_189) rfl rfl ?_
    show own_S p e below T150 (mkF m 190 _ [(.ref b66)]) _
    exact kt
  have KQ153_0 := Keep.refl h0 []
  have sz153_3 := Nat.le_trans KQ153_0.1 (Nat.le_of_eq g3.symm)
  have KQ153_1 := KQ153_0.ext E3
  have KQ153_2 := KQ153_1.wr W24 (Or.inr sz153_3)
  have KQ153_3 := KQ153_2.wr W46 (Or.inr sz153_3)
  have sz153_66 := Nat.le_trans KQ153_3.1 (Nat.le_of_eq g66.symm)
  have KQ153_4 := KQ153_3.ext E66
  have KQ153_5 := KQ153_4.wr W105 (Or.inr sz153_66)
  have KQ153_6 := KQ153_5.wr W150 (Or.inr sz153_66)
  obtain ⟨fs, hr, hrun, hended, hW, hsame⟩ := X150.leave (v := some (.ref b66)) (fun h => by rw [Bd.returns] at h; cases h)
  refine ⟨_, _, ?_, hrun, hended, _, _, rfl, ?_, ⟨_, rfl⟩, hW, hsame.mono (by decide) (by decide)⟩
  · rw [← hG0]
    refine K152 _ ?_
    exact retOut X150 hx (t := (.array .double)) Bd.returns rfl (Or.inr (Or.inr (Or.inr (Or.inr ⟨rfl, rfl, rfl⟩)))) (hb hby d6_190) hr
  · show Q6_01 Z a0 a1 rb ml ln pe pu pc ra ca rc cc kr km kl ke ku kc kq rd fr fm fl fq x2 x3 x4 ea eb g0 g1 gf r0 r1 da db dc dd R0 R1 M A A' B C C' D h0 n0 _ T150.heap _
    rw [e150]
    exact ⟨b66, k66, (FP.ddiv (FP.dsub (FP.dsub r0 (FP.dmul db (FP.ddiv (FP.dsub r1 (FP.dmul dd 0)) dc))) (FP.dmul dd 0)) da), (FP.ddiv (FP.dsub r1 (FP.dmul dd 0)) dc), rfl, N150, KQ153_6, VL150, qx, qy⟩
theorem ef_rm6_00 (m : MethodId) (a0 : Addr) (a1 : Addr) : entryFrame m #[(.ref a0), (.ref a1)] 10 = (mkF m 0 #[.val (.ref a0), .val (.ref a1), .unset, .unset, .unset, .unset, .unset, .unset, .unset, .unset] []) := by first | (simp [entryFrame, mkF, argsToLocals, Value.category]; done) | rfl
def Q6_00 (Z : State) (a0 : Addr) (a1 : Addr) (rb : Addr) (ml : Addr) (ln : Addr) (pe : Addr) (pu : Addr) (pc : Addr) (ra : Addr) (ca : Addr) (rc : Addr) (cc : Addr) (kr : ClassId) (km : ClassId) (kl : ClassId) (ke : ClassId) (ku : ClassId) (kc : ClassId) (kq : ClassId) (rd : Int64) (fr : Int32 → Value) (fm : Int32 → Value) (fl : Int32 → Value) (fq : Int32 → Value) (x2 : Value) (x3 : Value) (x4 : Value) (ea : Int32) (eb : Int32) (g0 : Int32) (g1 : Int32) (gf : Int32) (r0 : UInt64) (r1 : UInt64) (da : UInt64) (db : UInt64) (dc : UInt64) (dd : UInt64) (R0 : Int) (R1 : Int) (M : Int) (A : Int) (A' : Int) (B : Int) (C : Int) (C' : Int) (D : Int) (h0 : Heap) (n0 : Nat) (v : Option Value) (h : Heap) (L : List Loc) : Prop := ∃ (r : Addr) (kx : ClassId) (x0 x1 : UInt64), v = some (.ref r) ∧ Fr n0 L ∧ Keep h0 h [] ∧ Arv Z h r kx .double (3 : Int32) (own_l3 (own_u g0 (.double x0) (own_u g1 (.double x1) (fun _ => (.double 0))))) (.double 0) ∧ own_V 3 ((R1 - M * R0) * C') x1 ∧ own_V 6 ((R0 * 8 - B * ((R1 - M * R0) * C')) * A') x0
set_option maxRecDepth 65536 in
set_option maxHeartbeats 40000000 in
theorem rm6_00 (l : Launch) (Z : State) (aa : Array Value) (hw : ∀ d ∈ tables_1, d.before aa Z = true) (ws : List Jvm.Cond) (a0 : Addr) (a1 : Addr) (rb : Addr) (ml : Addr) (ln : Addr) (pe : Addr) (pu : Addr) (pc : Addr) (ra : Addr) (ca : Addr) (rc : Addr) (cc : Addr) (kr : ClassId) (km : ClassId) (kl : ClassId) (ke : ClassId) (ku : ClassId) (kc : ClassId) (kq : ClassId) (rd : Int64) (fr : Int32 → Value) (fm : Int32 → Value) (fl : Int32 → Value) (fq : Int32 → Value) (x2 : Value) (x3 : Value) (x4 : Value) (ea : Int32) (eb : Int32) (g0 : Int32) (g1 : Int32) (gf : Int32) (r0 : UInt64) (r1 : UInt64) (da : UInt64) (db : UInt64) (dc : UInt64) (dd : UInt64) (R0 : Int) (R1 : Int) (M : Int) (A : Int) (A' : Int) (B : Int) (C : Int) (C' : Int) (D : Int) (h0 : Heap) (n0 : Nat) (Z0 : n0 ≤ h0.size) (FA : own_Fac Z h0 a0 rb ml ln pe pu pc kr km kl ke ku kc (3 : Int32) (2 : Int32) rd (own_l3 fr) (own_l3 fm) (own_l3 fl) [(.int ea), (.int eb), x2] [(.ref ra), (.ref rc), x3] [(.ref ca), (.ref cc), x4]) (V_q : Arv Z h0 a1 kq .double (3 : Int32) (own_l3 fq) (.double 0)) (hq0 : fq ea = (.double r0)) (hq1 : fq eb = (.double r1)) (hRa : own_R ea) (hRb : own_R eb) (hR0 : own_R g0) (hR1 : own_R g1) (hRf : own_R gf) (n01 : g0 ≠ g1) (n0f : g0 ≠ gf) (n1f : g1 ≠ gf) (hl0 : fl ea = (.int (0 : Int32))) (v0 : own_V 0 R0 r0) (v1 : own_V 0 R1 r1) (va : own_V 0 A da) (vb : own_V 0 B db) (vc : own_V 0 C dc) (vd : own_V 0 D dd) (aa' : A * A' = 8) (cc' : C * C' = 8) (ba : A'.natAbs ≤ 8) (bc : C'.natAbs ≤ 8) (bb : B.natAbs ≤ 8) (bm : M.natAbs ≤ 8) (b0 : R0.natAbs ≤ 2147483648) (b1 : R1.natAbs ≤ 2147483648) (RW : own_Rows Z h0 false ra ca rc cc g0 g1 gf da db dc dd) (hl1 : fl eb = (.int (0 : Int32))) (hM : M = 0) :
    MetFree l (⟨"com/example/sondage/sondage/inference/Factorization", "solve", "([D)[D"⟩ : MethodName) (head1 (Jvm.Cond.code (⟨"com/example/sondage/sondage/inference/Factorization", "solve", "([D)[D"⟩ : MethodName) prog_18_method_7_code 10 (some (.array .double)) :: ws) ({ frames := 0, cells := 2, slots := 5, locals := 0 } : Room)) (fun a U => a = #[(.ref a0), (.ref a1)] ∧ Z.Warmed39 U.vm ∧ U.heap = h0) (fun _ _ _ _ _ => True) (fun _ U o U' => ∃ v L, o = .returned v ∧ Q6_00 Z a0 a1 rb ml ln pe pu pc ra ca rc cc kr km kl ke ku kc kq rd fr fm fl fq x2 x3 x4 ea eb g0 g1 gf r0 r1 da db dc dd R0 R1 M A A' B C C' D h0 n0 v U'.heap L ∧ FrameEnd U o U' L ({ frames := 0, cells := 2, slots := 5, locals := 0 } : Room).cells ({ frames := 0, cells := 2, slots := 5, locals := 0 } : Room).slots) := by
  refine MetFree.of_bodySF (plainFor_of_name pn_com_example_sondage_sondage_inference_Factorization) hisR ?_
  intro p e s m args below meth c s₁ Bd hml0 hP hK
  obtain ⟨rfl, hZ, hh⟩ := hP
  have hx := Bd.exec
  have hby := Bd.bytes
  have hml : c.maxLocals = 10 := hml0
  have hown : s.vm.findClass "com/example/sondage/sondage/inference/Factorization" = some m.cls := findClass_of_methodNamed Bd.named
  have hnm := (name_of_methodNamed Bd.named Bd.method).1
  have X0 : Stand p l e ({ frames := 0, cells := 2, slots := 5, locals := 0 } : Room) s m #[(.ref a0), (.ref a1)] below meth c s₁ [] 0 0 := Stand.of_body Bd
  have e0 : s₁.heap = h0 := by rw [← hh, Bd.state]; rfl
  have N0 := Fr.nil n0
  obtain ⟨G0, hG0⟩ : ∃ G, G = s₁.setTop (entryFrame m #[(.ref a0), (.ref a1)] 10) := ⟨_, rfl⟩
  have K0 : own_K p e below G0 s₁ (mkF m 0 #[.val (.ref a0), .val (.ref a1), .unset, .unset, .unset, .unset, .unset, .unset, .unset, .unset] []) := fun t k => by rw [hG0]; exact castTop (ef_rm6_00 m a0 a1) k
  obtain ⟨fc_0, fc_1, fc_2, fc_3, fc_4, fc_5, fc_6, fc_7, fc_8, fc_9, fc_10, fc_11, fc_12, fc_13, fc_14, fc_15⟩ := id FA
  obtain ⟨kh1, kh2, kh3, kh4, V_ra, V_ca, V_rc, V_cc⟩ := RW
  have qb : own_V 0 (R1 - M * R0) r1 := own_V_eq v1 (by rw [hM]; omega)
  have bv := own_numV b0 b1 bm
  have qx := own_numX qb vc cc' bc bv
  have bn := own_ab bv bc
  obtain ⟨qe, qf, qg⟩ := own_numT v0 vb qx b0 bb (by omega)
  have qy := own_numY qf va aa' ba qg
  have K1 : own_K p e below G0 s₁ (mkF m 1 #[.val (.ref a0), .val (.ref a1), .unset, .unset, .unset, .unset, .unset, .unset, .unset, .unset] [(.ref a0)]) := by
    intro t kt
    refine K0 t ?_
    refine XS.aloadN X0.here hx rfl (hb hby d6_0) rfl rfl ?_
    show own_S p e below s₁ (mkF m 1 _ [(.ref a0)]) _
    exact kt
  obtain ⟨T2, X2, e2, st2⟩ := getF X0 hx hZ hown (host := "") (Or.inl (hw _ (List.mem_of_getElem? (i := 43) rfl))) Via.refl e0 fc_2 (g := (mkF m 1 #[.val (.ref a0), .val (.ref a1), .unset, .unset, .unset, .unset, .unset, .unset, .unset, .unset] [(.ref a0)])) rfl rfl (hb hby d6_1)
  have K2 : own_K p e below G0 T2 (mkF m 4 #[.val (.ref a0), .val (.ref a1), .unset, .unset, .unset, .unset, .unset, .unset, .unset, .unset] [(.int (2 : Int32))]) := fun t kt => K1 t (st2 _ kt)
  obtain ⟨T3, h3, k3, X3, e3, E3, A3, st3⟩ := newP X2 hx hZ (hw _ (List.mem_of_getElem? (i := 4) rfl)) e2 (g := (mkF m 4 #[.val (.ref a0), .val (.ref a1), .unset, .unset, .unset, .unset, .unset, .unset, .unset, .unset] [(.int (2 : Int32))])) rfl (hb hby d6_4) rfl (by decide) (cap := 2) (by decide) (by decide) (by decide) (by decide)
  obtain ⟨b3, g3⟩ : ∃ z, z = h0.size := ⟨_, rfl⟩
  rw [← g3] at A3 st3
  have V3 := Arv.new A3 (by decide)
  have gn3 : n0 ≤ b3 := Nat.le_trans Z0 (Nat.le_of_eq g3.symm)
  have Z3 : n0 ≤ h3.size := Nat.le_trans Z0 E3.1
  have K3 : own_K p e below G0 T3 (mkF m 6 #[.val (.ref a0), .val (.ref a1), .unset, .unset, .unset, .unset, .unset, .unset, .unset, .unset] [(.ref b3)]) := fun t kt => K2 t (st3 _ kt)
  have ne_a0_b3 : a0 ≠ b3 := Nat.ne_of_lt (Nat.lt_of_lt_of_le (fc_0).lt (Nat.le_of_eq g3.symm))
  have ne_rb_b3 : rb ≠ b3 := Nat.ne_of_lt (Nat.lt_of_lt_of_le (fc_10).lt (Nat.le_of_eq g3.symm))
  have ne_ml_b3 : ml ≠ b3 := Nat.ne_of_lt (Nat.lt_of_lt_of_le (fc_11).lt (Nat.le_of_eq g3.symm))
  have ne_ln_b3 : ln ≠ b3 := Nat.ne_of_lt (Nat.lt_of_lt_of_le (fc_12).lt (Nat.le_of_eq g3.symm))
  have ne_pe_b3 : pe ≠ b3 := Nat.ne_of_lt (Nat.lt_of_lt_of_le (fc_13).lt (Nat.le_of_eq g3.symm))
  have ne_pu_b3 : pu ≠ b3 := Nat.ne_of_lt (Nat.lt_of_lt_of_le (fc_14).lt (Nat.le_of_eq g3.symm))
  have ne_pc_b3 : pc ≠ b3 := Nat.ne_of_lt (Nat.lt_of_lt_of_le (fc_15).lt (Nat.le_of_eq g3.symm))
  have ne_a1_b3 : a1 ≠ b3 := Nat.ne_of_lt (Nat.lt_of_lt_of_le (V_q).lt (Nat.le_of_eq g3.symm))
  have ne_ra_b3 : ra ≠ b3 := Nat.ne_of_lt (Nat.lt_of_lt_of_le (V_ra).lt (Nat.le_of_eq g3.symm))
  have ne_ca_b3 : ca ≠ b3 := Nat.ne_of_lt (Nat.lt_of_lt_of_le (V_ca).lt (Nat.le_of_eq g3.symm))
  have ne_rc_b3 : rc ≠ b3 := Nat.ne_of_lt (Nat.lt_of_lt_of_le (V_rc).lt (Nat.le_of_eq g3.symm))
  have ne_cc_b3 : cc ≠ b3 := Nat.ne_of_lt (Nat.lt_of_lt_of_le (V_cc).lt (Nat.le_of_eq g3.symm))
  have VL3 : Arv Z h3 b3 k3 .double (2 : Int32) [(.double 0), (.double 0)] (.double 0) := V3.pad (pad_rep [] (.double 0) 2)
  have K4 : own_K p e below G0 T3 (mkF m 11 #[.val (.ref a0), .val (.ref a1), .val (.ref b3), .val (.int (0 : Int32)), .unset, .unset, .unset, .unset, .unset, .unset] [(.ref a0), (.int (0 : Int32))]) := by
    intro t kt
    refine K3 t ?_
    refine XS.astoreN X3.here hx rfl (hb hby d6_6) rfl rfl (l' := #[.val (.ref a0), .val (.ref a1), .val (.ref b3), .unset, .unset, .unset, .unset, .unset, .unset, .unset]) rfl ?_
    show own_S p e below T3 (mkF m 7 _ []) _
    refine XS.iconst X3.here hx rfl (hb hby d6_7) ?_
    show own_S p e below T3 (mkF m 8 _ [(.int (0 : Int32))]) _
    refine XS.istoreN X3.here hx rfl (hb hby d6_8) rfl (l' := #[.val (.ref a0), .val (.ref a1), .val (.ref b3), .val (.int (0 : Int32)), .unset, .unset, .unset, .unset, .unset, .unset]) rfl ?_
    show own_S p e below T3 (mkF m 9 _ []) _
    refine XS.iloadN X3.here hx rfl (hb hby d6_9) rfl ?_
    show own_S p e below T3 (mkF m 10 _ [(.int (0 : Int32))]) _
    refine XS.aloadN X3.here hx rfl (hb hby d6_10) rfl rfl ?_
    show own_S p e below T3 (mkF m 11 _ [(.ref a0), (.int (0 : Int32))]) _
    exact kt
  have f5 := (fc_2.ext E3)
  obtain ⟨T6, X6, e6, st6⟩ := getF X3 hx hZ hown (host := "") (Or.inl (hw _ (List.mem_of_getElem? (i := 43) rfl))) Via.refl e3 f5 (g := (mkF m 11 #[.val (.ref a0), .val (.ref a1), .val (.ref b3), .val (.int (0 : Int32)), .unset, .unset, .unset, .unset, .unset, .unset] [(.ref a0), (.int (0 : Int32))])) rfl rfl (hb hby d6_11)
  have K6 : own_K p e below G0 T6 (mkF m 14 #[.val (.ref a0), .val (.ref a1), .val (.ref b3), .val (.int (0 : Int32)), .unset, .unset, .unset, .unset, .unset, .unset] [(.int (2 : Int32)), (.int (0 : Int32))]) := fun t kt => K4 t (st6 _ kt)
  have K7 : own_K p e below G0 T6 (mkF m 18 #[.val (.ref a0), .val (.ref a1), .val (.ref b3), .val (.int (0 : Int32)), .unset, .unset, .unset, .unset, .unset, .unset] [(.ref a0)]) := by
    intro t kt
    refine K6 t ?_
    refine XS.icmpNo X6.here hx rfl (hb hby d6_14) rfl (tlt (by decide)).2.1 ?_
    show own_S p e below T6 (mkF m 17 _ []) _
    refine XS.aloadN X6.here hx rfl (hb hby d6_17) rfl rfl ?_
    show own_S p e below T6 (mkF m 18 _ [(.ref a0)]) _
    exact kt
  have f8 := (fc_7.ext E3)
  obtain ⟨T9, X9, e9, st9⟩ := getF X6 hx hZ hown (host := "") (Or.inl (hw _ (List.mem_of_getElem? (i := 32) rfl))) Via.refl e6 f8 (g := (mkF m 18 #[.val (.ref a0), .val (.ref a1), .val (.ref b3), .val (.int (0 : Int32)), .unset, .unset, .unset, .unset, .unset, .unset] [(.ref a0)])) rfl rfl (hb hby d6_18)
  have K9 : own_K p e below G0 T9 (mkF m 21 #[.val (.ref a0), .val (.ref a1), .val (.ref b3), .val (.int (0 : Int32)), .unset, .unset, .unset, .unset, .unset, .unset] [(.ref pe)]) := fun t kt => K7 t (st9 _ kt)
  have K10 : own_K p e below G0 T9 (mkF m 22 #[.val (.ref a0), .val (.ref a1), .val (.ref b3), .val (.int (0 : Int32)), .unset, .unset, .unset, .unset, .unset, .unset] [(.int (0 : Int32)), (.ref pe)]) := by
    intro t kt
    refine K9 t ?_
    refine XS.iloadN X9.here hx rfl (hb hby d6_21) rfl ?_
    show own_S p e below T9 (mkF m 22 _ [(.int (0 : Int32)), (.ref pe)]) _
    exact kt
  have f11 := (fc_13.ext E3)
  obtain ⟨cl12, Ar12, qq12, S12, M12, H12, GG12⟩ := id f11
  have hin12 : ¬ ((0 : Int32) < 0 ∨ cl12.slots.size ≤ ((0 : Int32)).toNatClampNeg) := inb_of S12 ⟨by decide, by decide⟩
  have hat12 : cl12.slots[((0 : Int32)).toNatClampNeg]? = some (.int ea) := Has.at H12 hin12 rfl
  have K13 : own_K p e below G0 T9 (mkF m 28 #[.val (.ref a0), .val (.ref a1), .val (.ref b3), .val (.int (0 : Int32)), .val (.int ea), .unset, .unset, .unset, .unset, .unset] [(.int ea), (.ref a1)]) := by
    intro t kt
    refine K10 t ?_
    refine X9.iaload hx (j := (0 : Int32)) (v := (.int ea)) (by rw [e9]; exact (Ar12).1) (State.isArrayOf_alike hZ.alike (Ar12).2.1) (Ar12).2.2 hin12 hat12 (g := (mkF m 22 #[.val (.ref a0), .val (.ref a1), .val (.ref b3), .val (.int (0 : Int32)), .unset, .unset, .unset, .unset, .unset, .unset] [(.int (0 : Int32)), (.ref pe)])) rfl rfl (hb hby d6_22) _ ?_
    show own_S p e below T9 (mkF m 23 _ [(.int ea)]) _
    refine XS.istore X9.here hx rfl (hb hby d6_23) rfl (l' := #[.val (.ref a0), .val (.ref a1), .val (.ref b3), .val (.int (0 : Int32)), .val (.int ea), .unset, .unset, .unset, .unset, .unset]) rfl ?_
    show own_S p e below T9 (mkF m 25 _ []) _
    refine XS.aloadN X9.here hx rfl (hb hby d6_25) rfl rfl ?_
    show own_S p e below T9 (mkF m 26 _ [(.ref a1)]) _
    refine XS.iload X9.here hx rfl (hb hby d6_26) rfl ?_
    show own_S p e below T9 (mkF m 28 _ [(.int ea), (.ref a1)]) _
    exact kt
  have f14 := (V_q.ext E3)
  obtain ⟨cl15, Ar15, qq15, S15, M15, H15, GG15⟩ := id f14
  have hin15 := inb_of S15 (own_in3 hRa)
  have hat15 : cl15.slots[(ea).toNatClampNeg]? = some (.double r0) := Has.at H15 hin15 ((own_g3 hRa).trans hq0)
  have K16 : own_K p e below G0 T9 (mkF m 37 #[.val (.ref a0), .val (.ref a1), .val (.ref b3), .val (.int (0 : Int32)), .val (.int ea), .val (.double r0), .second, .val (.int (0 : Int32)), .unset, .unset] [(.ref a0), (.int (0 : Int32))]) := by
    intro t kt
    refine K13 t ?_
    refine X9.daload hx (j := ea) (v := (.double r0)) (by rw [e9]; exact (Ar15).1) (State.isArrayOf_alike hZ.alike (Ar15).2.1) (Ar15).2.2 hin15 hat15 (g := (mkF m 28 #[.val (.ref a0), .val (.ref a1), .val (.ref b3), .val (.int (0 : Int32)), .val (.int ea), .unset, .unset, .unset, .unset, .unset] [(.int ea), (.ref a1)])) rfl rfl (hb hby d6_28) _ ?_
    show own_S p e below T9 (mkF m 29 _ [(.double r0)]) _
    refine XS.dstore X9.here hx rfl (hb hby d6_29) rfl (l' := #[.val (.ref a0), .val (.ref a1), .val (.ref b3), .val (.int (0 : Int32)), .val (.int ea), .val (.double r0), .second, .unset, .unset, .unset]) rfl ?_
    show own_S p e below T9 (mkF m 31 _ []) _
    refine XS.iconst X9.here hx rfl (hb hby d6_31) ?_
    show own_S p e below T9 (mkF m 32 _ [(.int (0 : Int32))]) _
    refine XS.istore X9.here hx rfl (hb hby d6_32) rfl (l' := #[.val (.ref a0), .val (.ref a1), .val (.ref b3), .val (.int (0 : Int32)), .val (.int ea), .val (.double r0), .second, .val (.int (0 : Int32)), .unset, .unset]) rfl ?_
    show own_S p e below T9 (mkF m 34 _ []) _
    refine XS.iload X9.here hx rfl (hb hby d6_34) rfl ?_
    show own_S p e below T9 (mkF m 36 _ [(.int (0 : Int32))]) _
    refine XS.aloadN X9.here hx rfl (hb hby d6_36) rfl rfl ?_
    show own_S p e below T9 (mkF m 37 _ [(.ref a0), (.int (0 : Int32))]) _
    exact kt
  have f17 := (fc_6.ext E3)
  obtain ⟨T18, X18, e18, st18⟩ := getF X9 hx hZ hown (host := "") (Or.inl (hw _ (List.mem_of_getElem? (i := 26) rfl))) Via.refl e9 f17 (g := (mkF m 37 #[.val (.ref a0), .val (.ref a1), .val (.ref b3), .val (.int (0 : Int32)), .val (.int ea), .val (.double r0), .second, .val (.int (0 : Int32)), .unset, .unset] [(.ref a0), (.int (0 : Int32))])) rfl rfl (hb hby d6_37)
  have K18 : own_K p e below G0 T18 (mkF m 40 #[.val (.ref a0), .val (.ref a1), .val (.ref b3), .val (.int (0 : Int32)), .val (.int ea), .val (.double r0), .second, .val (.int (0 : Int32)), .unset, .unset] [(.ref ln), (.int (0 : Int32))]) := fun t kt => K16 t (st18 _ kt)
  have K19 : own_K p e below G0 T18 (mkF m 42 #[.val (.ref a0), .val (.ref a1), .val (.ref b3), .val (.int (0 : Int32)), .val (.int ea), .val (.double r0), .second, .val (.int (0 : Int32)), .unset, .unset] [(.int ea), (.ref ln), (.int (0 : Int32))]) := by
    intro t kt
    refine K18 t ?_
    refine XS.iload X18.here hx rfl (hb hby d6_40) rfl ?_
    show own_S p e below T18 (mkF m 42 _ [(.int ea), (.ref ln), (.int (0 : Int32))]) _
    exact kt
  have f20 := (fc_12.ext E3)
  obtain ⟨cl21, Ar21, qq21, S21, M21, H21, GG21⟩ := id f20
  have hin21 := inb_of S21 (own_in3 hRa)
  have hat21 : cl21.slots[(ea).toNatClampNeg]? = some (.int (0 : Int32)) := Has.at H21 hin21 ((own_g3 hRa).trans hl0)
  have K22 : own_K p e below G0 T18 (mkF m 84 #[.val (.ref a0), .val (.ref a1), .val (.ref b3), .val (.int (0 : Int32)), .val (.int ea), .val (.double r0), .second, .val (.int (0 : Int32)), .unset, .unset] [(.double r0), (.int (0 : Int32)), (.ref b3)]) := by
    intro t kt
    refine K19 t ?_
    refine X18.iaload hx (j := ea) (v := (.int (0 : Int32))) (by rw [e18]; exact (Ar21).1) (State.isArrayOf_alike hZ.alike (Ar21).2.1) (Ar21).2.2 hin21 hat21 (g := (mkF m 42 #[.val (.ref a0), .val (.ref a1), .val (.ref b3), .val (.int (0 : Int32)), .val (.int ea), .val (.double r0), .second, .val (.int (0 : Int32)), .unset, .unset] [(.int ea), (.ref ln), (.int (0 : Int32))])) rfl rfl (hb hby d6_42) _ ?_
    show own_S p e below T18 (mkF m 43 _ [(.int (0 : Int32)), (.int (0 : Int32))]) _
    refine XS.icmpYes X18.here hx rfl (pc0 := 43) (pc' := 80) rfl (hb hby d6_43) rfl (flt (by decide)).2.1 (by decide) (by decide) ?_
    show own_S p e below T18 (mkF m 80 _ []) _
    refine XS.aloadN X18.here hx rfl (hb hby d6_80) rfl rfl ?_
    show own_S p e below T18 (mkF m 81 _ [(.ref b3)]) _
    refine XS.iloadN X18.here hx rfl (hb hby d6_81) rfl ?_
    show own_S p e below T18 (mkF m 82 _ [(.int (0 : Int32)), (.ref b3)]) _
    refine XS.dload X18.here hx rfl (hb hby d6_82) rfl ?_
    show own_S p e below T18 (mkF m 84 _ [(.double r0), (.int (0 : Int32)), (.ref b3)]) _
    exact kt
  obtain ⟨cl23, Ar23, qq23, S23, M23, H23, GG23⟩ := id VL3
  have hin23 : ¬ ((0 : Int32) < 0 ∨ cl23.slots.size ≤ ((0 : Int32)).toNatClampNeg) := inb_of S23 ⟨by decide, by decide⟩
  obtain ⟨T24, h24, X24, e24, W24, st24⟩ := stD X18 hx hZ e18 Ar23 (j := (0 : Int32)) hin23 (g := (mkF m 84 #[.val (.ref a0), .val (.ref a1), .val (.ref b3), .val (.int (0 : Int32)), .val (.int ea), .val (.double r0), .second, .val (.int (0 : Int32)), .unset, .unset] [(.double r0), (.int (0 : Int32)), (.ref b3)])) rfl rfl (hb hby d6_84)
  have K24 : own_K p e below G0 T24 (mkF m 85 #[.val (.ref a0), .val (.ref a1), .val (.ref b3), .val (.int (0 : Int32)), .val (.int ea), .val (.double r0), .second, .val (.int (0 : Int32)), .unset, .unset] []) := fun t kt => K22 t (st24 _ kt)
  have Z24 : n0 ≤ h24.size := Nat.le_trans Z3 (Keep.of_wr W24).1
  have VL24 : Arv Z h24 b3 k3 .double (2 : Int32) [(.double r0), (.double 0)] (.double 0) := Arv.set Ar23 qq23 S23 M23 H23 GG23 rfl W24 0 rfl (Nat.le_of_ble_eq_true rfl)
  have N24 := Fr.snoc X24 N0 gn3
  have K25 : own_K p e below G0 T24 (mkF m 88 #[.val (.ref a0), .val (.ref a1), .val (.ref b3), .val (.int ((0 : Int32) + (1 : Int32))), .val (.int ea), .val (.double r0), .second, .val (.int (0 : Int32)), .unset, .unset] []) := by
    intro t kt
    refine K24 t ?_
    refine XS.iinc X24.here hx rfl (hb hby d6_85) rfl (l' := #[.val (.ref a0), .val (.ref a1), .val (.ref b3), .val (.int ((0 : Int32) + (1 : Int32))), .val (.int ea), .val (.double r0), .second, .val (.int (0 : Int32)), .unset, .unset]) rfl ?_
    show own_S p e below T24 (mkF m 88 _ []) _
    exact kt
  rw [show ((0 : Int32) + (1 : Int32)) = (1 : Int32) from by decide] at K25
  have K26 : own_K p e below G0 T24 (mkF m 11 #[.val (.ref a0), .val (.ref a1), .val (.ref b3), .val (.int (1 : Int32)), .val (.int ea), .val (.double r0), .second, .val (.int (0 : Int32)), .unset, .unset] [(.ref a0), (.int (1 : Int32))]) := by
    intro t kt
    refine K25 t ?_
    refine XS.goto X24.here hx rfl (pc0 := 88) (pc' := 9) rfl (hb hby d6_88) (by decide) (by decide) ?_
    show own_S p e below T24 (mkF m 9 _ []) _
    refine XS.iloadN X24.here hx rfl (hb hby d6_9) rfl ?_
    show own_S p e below T24 (mkF m 10 _ [(.int (1 : Int32))]) _
    refine XS.aloadN X24.here hx rfl (hb hby d6_10) rfl rfl ?_
    show own_S p e below T24 (mkF m 11 _ [(.ref a0), (.int (1 : Int32))]) _
    exact kt
  have f27 := (f5.other W24 (Or.inl ne_a0_b3))
  obtain ⟨T28, X28, e28, st28⟩ := getF X24 hx hZ hown (host := "") (Or.inl (hw _ (List.mem_of_getElem? (i := 43) rfl))) Via.refl e24 f27 (g := (mkF m 11 #[.val (.ref a0), .val (.ref a1), .val (.ref b3), .val (.int (1 : Int32)), .val (.int ea), .val (.double r0), .second, .val (.int (0 : Int32)), .unset, .unset] [(.ref a0), (.int (1 : Int32))])) rfl rfl (hb hby d6_11)
  have K28 : own_K p e below G0 T28 (mkF m 14 #[.val (.ref a0), .val (.ref a1), .val (.ref b3), .val (.int (1 : Int32)), .val (.int ea), .val (.double r0), .second, .val (.int (0 : Int32)), .unset, .unset] [(.int (2 : Int32)), (.int (1 : Int32))]) := fun t kt => K26 t (st28 _ kt)
  have K29 : own_K p e below G0 T28 (mkF m 18 #[.val (.ref a0), .val (.ref a1), .val (.ref b3), .val (.int (1 : Int32)), .val (.int ea), .val (.double r0), .second, .val (.int (0 : Int32)), .unset, .unset] [(.ref a0)]) := by
    intro t kt
    refine K28 t ?_
    refine XS.icmpNo X28.here hx rfl (hb hby d6_14) rfl (tlt (by decide)).2.1 ?_
    show own_S p e below T28 (mkF m 17 _ []) _
    refine XS.aloadN X28.here hx rfl (hb hby d6_17) rfl rfl ?_
    show own_S p e below T28 (mkF m 18 _ [(.ref a0)]) _
    exact kt
  have f30 := (f8.other W24 (Or.inl ne_a0_b3))
  obtain ⟨T31, X31, e31, st31⟩ := getF X28 hx hZ hown (host := "") (Or.inl (hw _ (List.mem_of_getElem? (i := 32) rfl))) Via.refl e28 f30 (g := (mkF m 18 #[.val (.ref a0), .val (.ref a1), .val (.ref b3), .val (.int (1 : Int32)), .val (.int ea), .val (.double r0), .second, .val (.int (0 : Int32)), .unset, .unset] [(.ref a0)])) rfl rfl (hb hby d6_18)
  have K31 : own_K p e below G0 T31 (mkF m 21 #[.val (.ref a0), .val (.ref a1), .val (.ref b3), .val (.int (1 : Int32)), .val (.int ea), .val (.double r0), .second, .val (.int (0 : Int32)), .unset, .unset] [(.ref pe)]) := fun t kt => K29 t (st31 _ kt)
  have K32 : own_K p e below G0 T31 (mkF m 22 #[.val (.ref a0), .val (.ref a1), .val (.ref b3), .val (.int (1 : Int32)), .val (.int ea), .val (.double r0), .second, .val (.int (0 : Int32)), .unset, .unset] [(.int (1 : Int32)), (.ref pe)]) := by
    intro t kt
    refine K31 t ?_
    refine XS.iloadN X31.here hx rfl (hb hby d6_21) rfl ?_
    show own_S p e below T31 (mkF m 22 _ [(.int (1 : Int32)), (.ref pe)]) _
    exact kt
  have f33 := (f11.other W24 ne_pe_b3)
  obtain ⟨cl34, Ar34, qq34, S34, M34, H34, GG34⟩ := id f33
  have hin34 : ¬ ((1 : Int32) < 0 ∨ cl34.slots.size ≤ ((1 : Int32)).toNatClampNeg) := inb_of S34 ⟨by decide, by decide⟩
  have hat34 : cl34.slots[((1 : Int32)).toNatClampNeg]? = some (.int eb) := Has.at H34 hin34 rfl
  have K35 : own_K p e below G0 T31 (mkF m 28 #[.val (.ref a0), .val (.ref a1), .val (.ref b3), .val (.int (1 : Int32)), .val (.int eb), .val (.double r0), .second, .val (.int (0 : Int32)), .unset, .unset] [(.int eb), (.ref a1)]) := by
    intro t kt
    refine K32 t ?_
    refine X31.iaload hx (j := (1 : Int32)) (v := (.int eb)) (by rw [e31]; exact (Ar34).1) (State.isArrayOf_alike hZ.alike (Ar34).2.1) (Ar34).2.2 hin34 hat34 (g := (mkF m 22 #[.val (.ref a0), .val (.ref a1), .val (.ref b3), .val (.int (1 : Int32)), .val (.int ea), .val (.double r0), .second, .val (.int (0 : Int32)), .unset, .unset] [(.int (1 : Int32)), (.ref pe)])) rfl rfl (hb hby d6_22) _ ?_
    show own_S p e below T31 (mkF m 23 _ [(.int eb)]) _
    refine XS.istore X31.here hx rfl (hb hby d6_23) rfl (l' := #[.val (.ref a0), .val (.ref a1), .val (.ref b3), .val (.int (1 : Int32)), .val (.int eb), .val (.double r0), .second, .val (.int (0 : Int32)), .unset, .unset]) rfl ?_
    show own_S p e below T31 (mkF m 25 _ []) _
    refine XS.aloadN X31.here hx rfl (hb hby d6_25) rfl rfl ?_
    show own_S p e below T31 (mkF m 26 _ [(.ref a1)]) _
    refine XS.iload X31.here hx rfl (hb hby d6_26) rfl ?_
    show own_S p e below T31 (mkF m 28 _ [(.int eb), (.ref a1)]) _
    exact kt
  have f36 := (f14.other W24 ne_a1_b3)
  obtain ⟨cl37, Ar37, qq37, S37, M37, H37, GG37⟩ := id f36
  have hin37 := inb_of S37 (own_in3 hRb)
  have hat37 : cl37.slots[(eb).toNatClampNeg]? = some (.double r1) := Has.at H37 hin37 ((own_g3 hRb).trans hq1)
  have K38 : own_K p e below G0 T31 (mkF m 37 #[.val (.ref a0), .val (.ref a1), .val (.ref b3), .val (.int (1 : Int32)), .val (.int eb), .val (.double r1), .second, .val (.int (0 : Int32)), .unset, .unset] [(.ref a0), (.int (0 : Int32))]) := by
    intro t kt
    refine K35 t ?_
    refine X31.daload hx (j := eb) (v := (.double r1)) (by rw [e31]; exact (Ar37).1) (State.isArrayOf_alike hZ.alike (Ar37).2.1) (Ar37).2.2 hin37 hat37 (g := (mkF m 28 #[.val (.ref a0), .val (.ref a1), .val (.ref b3), .val (.int (1 : Int32)), .val (.int eb), .val (.double r0), .second, .val (.int (0 : Int32)), .unset, .unset] [(.int eb), (.ref a1)])) rfl rfl (hb hby d6_28) _ ?_
    show own_S p e below T31 (mkF m 29 _ [(.double r1)]) _
    refine XS.dstore X31.here hx rfl (hb hby d6_29) rfl (l' := #[.val (.ref a0), .val (.ref a1), .val (.ref b3), .val (.int (1 : Int32)), .val (.int eb), .val (.double r1), .second, .val (.int (0 : Int32)), .unset, .unset]) rfl ?_
    show own_S p e below T31 (mkF m 31 _ []) _
    refine XS.iconst X31.here hx rfl (hb hby d6_31) ?_
    show own_S p e below T31 (mkF m 32 _ [(.int (0 : Int32))]) _
    refine XS.istore X31.here hx rfl (hb hby d6_32) rfl (l' := #[.val (.ref a0), .val (.ref a1), .val (.ref b3), .val (.int (1 : Int32)), .val (.int eb), .val (.double r1), .second, .val (.int (0 : Int32)), .unset, .unset]) rfl ?_
    show own_S p e below T31 (mkF m 34 _ []) _
    refine XS.iload X31.here hx rfl (hb hby d6_34) rfl ?_
    show own_S p e below T31 (mkF m 36 _ [(.int (0 : Int32))]) _
    refine XS.aloadN X31.here hx rfl (hb hby d6_36) rfl rfl ?_
    show own_S p e below T31 (mkF m 37 _ [(.ref a0), (.int (0 : Int32))]) _
    exact kt
  have f39 := (f17.other W24 (Or.inl ne_a0_b3))
  obtain ⟨T40, X40, e40, st40⟩ := getF X31 hx hZ hown (host := "") (Or.inl (hw _ (List.mem_of_getElem? (i := 26) rfl))) Via.refl e31 f39 (g := (mkF m 37 #[.val (.ref a0), .val (.ref a1), .val (.ref b3), .val (.int (1 : Int32)), .val (.int eb), .val (.double r1), .second, .val (.int (0 : Int32)), .unset, .unset] [(.ref a0), (.int (0 : Int32))])) rfl rfl (hb hby d6_37)
  have K40 : own_K p e below G0 T40 (mkF m 40 #[.val (.ref a0), .val (.ref a1), .val (.ref b3), .val (.int (1 : Int32)), .val (.int eb), .val (.double r1), .second, .val (.int (0 : Int32)), .unset, .unset] [(.ref ln), (.int (0 : Int32))]) := fun t kt => K38 t (st40 _ kt)
  have K41 : own_K p e below G0 T40 (mkF m 42 #[.val (.ref a0), .val (.ref a1), .val (.ref b3), .val (.int (1 : Int32)), .val (.int eb), .val (.double r1), .second, .val (.int (0 : Int32)), .unset, .unset] [(.int eb), (.ref ln), (.int (0 : Int32))]) := by
    intro t kt
    refine K40 t ?_
    refine XS.iload X40.here hx rfl (hb hby d6_40) rfl ?_
    show own_S p e below T40 (mkF m 42 _ [(.int eb), (.ref ln), (.int (0 : Int32))]) _
    exact kt
  have f42 := (f20.other W24 ne_ln_b3)
  obtain ⟨cl43, Ar43, qq43, S43, M43, H43, GG43⟩ := id f42
  have hin43 := inb_of S43 (own_in3 hRb)
  have hat43 : cl43.slots[(eb).toNatClampNeg]? = some (.int (0 : Int32)) := Has.at H43 hin43 ((own_g3 hRb).trans hl1)
  have K44 : own_K p e below G0 T40 (mkF m 84 #[.val (.ref a0), .val (.ref a1), .val (.ref b3), .val (.int (1 : Int32)), .val (.int eb), .val (.double r1), .second, .val (.int (0 : Int32)), .unset, .unset] [(.double r1), (.int (1 : Int32)), (.ref b3)]) := by
    intro t kt
    refine K41 t ?_
    refine X40.iaload hx (j := eb) (v := (.int (0 : Int32))) (by rw [e40]; exact (Ar43).1) (State.isArrayOf_alike hZ.alike (Ar43).2.1) (Ar43).2.2 hin43 hat43 (g := (mkF m 42 #[.val (.ref a0), .val (.ref a1), .val (.ref b3), .val (.int (1 : Int32)), .val (.int eb), .val (.double r1), .second, .val (.int (0 : Int32)), .unset, .unset] [(.int eb), (.ref ln), (.int (0 : Int32))])) rfl rfl (hb hby d6_42) _ ?_
    show own_S p e below T40 (mkF m 43 _ [(.int (0 : Int32)), (.int (0 : Int32))]) _
    refine XS.icmpYes X40.here hx rfl (pc0 := 43) (pc' := 80) rfl (hb hby d6_43) rfl (flt (by decide)).2.1 (by decide) (by decide) ?_
    show own_S p e below T40 (mkF m 80 _ []) _
    refine XS.aloadN X40.here hx rfl (hb hby d6_80) rfl rfl ?_
    show own_S p e below T40 (mkF m 81 _ [(.ref b3)]) _
    refine XS.iloadN X40.here hx rfl (hb hby d6_81) rfl ?_
    show own_S p e below T40 (mkF m 82 _ [(.int (1 : Int32)), (.ref b3)]) _
    refine XS.dload X40.here hx rfl (hb hby d6_82) rfl ?_
    show own_S p e below T40 (mkF m 84 _ [(.double r1), (.int (1 : Int32)), (.ref b3)]) _
    exact kt
  obtain ⟨cl45, Ar45, qq45, S45, M45, H45, GG45⟩ := id VL24
  have hin45 : ¬ ((1 : Int32) < 0 ∨ cl45.slots.size ≤ ((1 : Int32)).toNatClampNeg) := inb_of S45 ⟨by decide, by decide⟩
  obtain ⟨T46, h46, X46, e46, W46, st46⟩ := stD X40 hx hZ e40 Ar45 (j := (1 : Int32)) hin45 (g := (mkF m 84 #[.val (.ref a0), .val (.ref a1), .val (.ref b3), .val (.int (1 : Int32)), .val (.int eb), .val (.double r1), .second, .val (.int (0 : Int32)), .unset, .unset] [(.double r1), (.int (1 : Int32)), (.ref b3)])) rfl rfl (hb hby d6_84)
  have K46 : own_K p e below G0 T46 (mkF m 85 #[.val (.ref a0), .val (.ref a1), .val (.ref b3), .val (.int (1 : Int32)), .val (.int eb), .val (.double r1), .second, .val (.int (0 : Int32)), .unset, .unset] []) := fun t kt => K44 t (st46 _ kt)
  have Z46 : n0 ≤ h46.size := Nat.le_trans Z24 (Keep.of_wr W46).1
  have VL46 : Arv Z h46 b3 k3 .double (2 : Int32) [(.double r0), (.double r1)] (.double 0) := Arv.set Ar45 qq45 S45 M45 H45 GG45 rfl W46 1 rfl (Nat.le_of_ble_eq_true rfl)
  have N46 := Fr.snoc X46 N24 gn3
  have K47 : own_K p e below G0 T46 (mkF m 88 #[.val (.ref a0), .val (.ref a1), .val (.ref b3), .val (.int ((1 : Int32) + (1 : Int32))), .val (.int eb), .val (.double r1), .second, .val (.int (0 : Int32)), .unset, .unset] []) := by
    intro t kt
    refine K46 t ?_
    refine XS.iinc X46.here hx rfl (hb hby d6_85) rfl (l' := #[.val (.ref a0), .val (.ref a1), .val (.ref b3), .val (.int ((1 : Int32) + (1 : Int32))), .val (.int eb), .val (.double r1), .second, .val (.int (0 : Int32)), .unset, .unset]) rfl ?_
    show own_S p e below T46 (mkF m 88 _ []) _
    exact kt
  rw [show ((1 : Int32) + (1 : Int32)) = (2 : Int32) from by decide] at K47
  have K48 : own_K p e below G0 T46 (mkF m 11 #[.val (.ref a0), .val (.ref a1), .val (.ref b3), .val (.int (2 : Int32)), .val (.int eb), .val (.double r1), .second, .val (.int (0 : Int32)), .unset, .unset] [(.ref a0), (.int (2 : Int32))]) := by
    intro t kt
    refine K47 t ?_
    refine XS.goto X46.here hx rfl (pc0 := 88) (pc' := 9) rfl (hb hby d6_88) (by decide) (by decide) ?_
    show own_S p e below T46 (mkF m 9 _ []) _
    refine XS.iloadN X46.here hx rfl (hb hby d6_9) rfl ?_
    show own_S p e below T46 (mkF m 10 _ [(.int (2 : Int32))]) _
    refine XS.aloadN X46.here hx rfl (hb hby d6_10) rfl rfl ?_
    show own_S p e below T46 (mkF m 11 _ [(.ref a0), (.int (2 : Int32))]) _
    exact kt
  have f49 := (f27.other W46 (Or.inl ne_a0_b3))
  obtain ⟨T50, X50, e50, st50⟩ := getF X46 hx hZ hown (host := "") (Or.inl (hw _ (List.mem_of_getElem? (i := 43) rfl))) Via.refl e46 f49 (g := (mkF m 11 #[.val (.ref a0), .val (.ref a1), .val (.ref b3), .val (.int (2 : Int32)), .val (.int eb), .val (.double r1), .second, .val (.int (0 : Int32)), .unset, .unset] [(.ref a0), (.int (2 : Int32))])) rfl rfl (hb hby d6_11)
  have K50 : own_K p e below G0 T50 (mkF m 14 #[.val (.ref a0), .val (.ref a1), .val (.ref b3), .val (.int (2 : Int32)), .val (.int eb), .val (.double r1), .second, .val (.int (0 : Int32)), .unset, .unset] [(.int (2 : Int32)), (.int (2 : Int32))]) := fun t kt => K48 t (st50 _ kt)
  have K51 : own_K p e below G0 T50 (mkF m 92 #[.val (.ref a0), .val (.ref a1), .val (.ref b3), .val (.int (2 : Int32)), .val (.int eb), .val (.double r1), .second, .val (.int (0 : Int32)), .unset, .unset] [(.ref a0)]) := by
    intro t kt
    refine K50 t ?_
    refine XS.icmpYes X50.here hx rfl (pc0 := 14) (pc' := 91) rfl (hb hby d6_14) rfl (flt (by decide)).2.1 (by decide) (by decide) ?_
    show own_S p e below T50 (mkF m 91 _ []) _
    refine XS.aloadN X50.here hx rfl (hb hby d6_91) rfl rfl ?_
    show own_S p e below T50 (mkF m 92 _ [(.ref a0)]) _
    exact kt
  have f52 := (((fc_1.ext E3).other W24 (Or.inl ne_a0_b3)).other W46 (Or.inl ne_a0_b3))
  obtain ⟨T53, X53, e53, st53⟩ := getF X50 hx hZ hown (host := "") (Or.inl (hw _ (List.mem_of_getElem? (i := 14) rfl))) Via.refl e50 f52 (g := (mkF m 92 #[.val (.ref a0), .val (.ref a1), .val (.ref b3), .val (.int (2 : Int32)), .val (.int eb), .val (.double r1), .second, .val (.int (0 : Int32)), .unset, .unset] [(.ref a0)])) rfl rfl (hb hby d6_92)
  have K53 : own_K p e below G0 T53 (mkF m 95 #[.val (.ref a0), .val (.ref a1), .val (.ref b3), .val (.int (2 : Int32)), .val (.int eb), .val (.double r1), .second, .val (.int (0 : Int32)), .unset, .unset] [(.int (3 : Int32))]) := fun t kt => K51 t (st53 _ kt)
  have f54 := (((fc_0.ext E3).wr W24).wr W46)
  have f55 := (((fc_10.ext E3).other W24 ne_rb_b3).other W46 ne_rb_b3)
  have f56 := (((fc_11.ext E3).other W24 ne_ml_b3).other W46 ne_ml_b3)
  have f57 := (f42.other W46 ne_ln_b3)
  have f58 := (f33.other W46 ne_pe_b3)
  have f59 := (((fc_14.ext E3).other W24 ne_pu_b3).other W46 ne_pu_b3)
  have f60 := (((fc_15.ext E3).other W24 ne_pc_b3).other W46 ne_pc_b3)
  have f61 := (f36.other W46 ne_a1_b3)
  have f62 := (((V_ra.ext E3).other W24 ne_ra_b3).other W46 ne_ra_b3)
  have f63 := (((V_ca.ext E3).other W24 ne_ca_b3).other W46 ne_ca_b3)
  have f64 := (((V_rc.ext E3).other W24 ne_rc_b3).other W46 ne_rc_b3)
  have f65 := (((V_cc.ext E3).other W24 ne_cc_b3).other W46 ne_cc_b3)
  obtain ⟨T66, h66, k66, X66, e66, E66, A66, st66⟩ := newP X53 hx hZ (hw _ (List.mem_of_getElem? (i := 4) rfl)) e53 (g := (mkF m 95 #[.val (.ref a0), .val (.ref a1), .val (.ref b3), .val (.int (2 : Int32)), .val (.int eb), .val (.double r1), .second, .val (.int (0 : Int32)), .unset, .unset] [(.int (3 : Int32))])) rfl (hb hby d6_95) rfl (by decide) (cap := 3) (by decide) (by decide) (by decide) (by decide)
  obtain ⟨b66, g66⟩ : ∃ z, z = h46.size := ⟨_, rfl⟩
  rw [← g66] at A66 st66
  have V66 := Arv.new A66 (by decide)
  have gn66 : n0 ≤ b66 := Nat.le_trans Z46 (Nat.le_of_eq g66.symm)
  have Z66 : n0 ≤ h66.size := Nat.le_trans Z46 E66.1
  have K66 : own_K p e below G0 T66 (mkF m 97 #[.val (.ref a0), .val (.ref a1), .val (.ref b3), .val (.int (2 : Int32)), .val (.int eb), .val (.double r1), .second, .val (.int (0 : Int32)), .unset, .unset] [(.ref b66)]) := fun t kt => K53 t (st66 _ kt)
  have ne_a0_b66 : a0 ≠ b66 := Nat.ne_of_lt (Nat.lt_of_lt_of_le (f54).lt (Nat.le_of_eq g66.symm))
  have ne_rb_b66 : rb ≠ b66 := Nat.ne_of_lt (Nat.lt_of_lt_of_le (f55).lt (Nat.le_of_eq g66.symm))
  have ne_ml_b66 : ml ≠ b66 := Nat.ne_of_lt (Nat.lt_of_lt_of_le (f56).lt (Nat.le_of_eq g66.symm))
  have ne_ln_b66 : ln ≠ b66 := Nat.ne_of_lt (Nat.lt_of_lt_of_le (f57).lt (Nat.le_of_eq g66.symm))
  have ne_pe_b66 : pe ≠ b66 := Nat.ne_of_lt (Nat.lt_of_lt_of_le (f58).lt (Nat.le_of_eq g66.symm))
  have ne_pu_b66 : pu ≠ b66 := Nat.ne_of_lt (Nat.lt_of_lt_of_le (f59).lt (Nat.le_of_eq g66.symm))
  have ne_pc_b66 : pc ≠ b66 := Nat.ne_of_lt (Nat.lt_of_lt_of_le (f60).lt (Nat.le_of_eq g66.symm))
  have ne_a1_b66 : a1 ≠ b66 := Nat.ne_of_lt (Nat.lt_of_lt_of_le (f61).lt (Nat.le_of_eq g66.symm))
  have ne_ra_b66 : ra ≠ b66 := Nat.ne_of_lt (Nat.lt_of_lt_of_le (f62).lt (Nat.le_of_eq g66.symm))
  have ne_ca_b66 : ca ≠ b66 := Nat.ne_of_lt (Nat.lt_of_lt_of_le (f63).lt (Nat.le_of_eq g66.symm))
  have ne_rc_b66 : rc ≠ b66 := Nat.ne_of_lt (Nat.lt_of_lt_of_le (f64).lt (Nat.le_of_eq g66.symm))
  have ne_cc_b66 : cc ≠ b66 := Nat.ne_of_lt (Nat.lt_of_lt_of_le (f65).lt (Nat.le_of_eq g66.symm))
  have ne_b3_b66 : b3 ≠ b66 := Nat.ne_of_lt (Nat.lt_of_lt_of_le (VL46).lt (Nat.le_of_eq g66.symm))
  have VL66 : Arv Z h66 b66 k66 .double (3 : Int32) [(.double 0), (.double 0), (.double 0)] (.double 0) := V66.pad (pad_rep [] (.double 0) 3)
  have VSb66 : Arv Z h66 b66 k66 .double (3 : Int32) (own_l3 (fun _ => (.double 0))) (.double 0) := VL66
  have K67 : own_K p e below G0 T66 (mkF m 99 #[.val (.ref a0), .val (.ref a1), .val (.ref b3), .val (.ref b66), .val (.int eb), .val (.double r1), .second, .val (.int (0 : Int32)), .unset, .unset] [(.ref a0)]) := by
    intro t kt
    refine K66 t ?_
    refine XS.astoreN X66.here hx rfl (hb hby d6_97) rfl rfl (l' := #[.val (.ref a0), .val (.ref a1), .val (.ref b3), .val (.ref b66), .val (.int eb), .val (.double r1), .second, .val (.int (0 : Int32)), .unset, .unset]) rfl ?_
    show own_S p e below T66 (mkF m 98 _ []) _
    refine XS.aloadN X66.here hx rfl (hb hby d6_98) rfl rfl ?_
    show own_S p e below T66 (mkF m 99 _ [(.ref a0)]) _
    exact kt
  have f68 := (f49.ext E66)
  obtain ⟨T69, X69, e69, st69⟩ := getF X66 hx hZ hown (host := "") (Or.inl (hw _ (List.mem_of_getElem? (i := 43) rfl))) Via.refl e66 f68 (g := (mkF m 99 #[.val (.ref a0), .val (.ref a1), .val (.ref b3), .val (.ref b66), .val (.int eb), .val (.double r1), .second, .val (.int (0 : Int32)), .unset, .unset] [(.ref a0)])) rfl rfl (hb hby d6_99)
  have K69 : own_K p e below G0 T69 (mkF m 102 #[.val (.ref a0), .val (.ref a1), .val (.ref b3), .val (.ref b66), .val (.int eb), .val (.double r1), .second, .val (.int (0 : Int32)), .unset, .unset] [(.int (2 : Int32))]) := fun t kt => K67 t (st69 _ kt)
  have K70 : own_K p e below G0 T69 (mkF m 106 #[.val (.ref a0), .val (.ref a1), .val (.ref b3), .val (.ref b66), .val (.int ((2 : Int32) - (1 : Int32))), .val (.double r1), .second, .val (.int (0 : Int32)), .unset, .unset] []) := by
    intro t kt
    refine K69 t ?_
    refine XS.iconst X69.here hx rfl (hb hby d6_102) ?_
    show own_S p e below T69 (mkF m 103 _ [(.int (1 : Int32)), (.int (2 : Int32))]) _
    refine XS.isub X69.here hx rfl (hb hby d6_103) rfl ?_
    show own_S p e below T69 (mkF m 104 _ [(.int ((2 : Int32) - (1 : Int32)))]) _
    refine XS.istore X69.here hx rfl (hb hby d6_104) rfl (l' := #[.val (.ref a0), .val (.ref a1), .val (.ref b3), .val (.ref b66), .val (.int ((2 : Int32) - (1 : Int32))), .val (.double r1), .second, .val (.int (0 : Int32)), .unset, .unset]) rfl ?_
    show own_S p e below T69 (mkF m 106 _ []) _
    exact kt
  rw [show ((2 : Int32) - (1 : Int32)) = (1 : Int32) from by decide] at K70
  have K71 : own_K p e below G0 T69 (mkF m 112 #[.val (.ref a0), .val (.ref a1), .val (.ref b3), .val (.ref b66), .val (.int (1 : Int32)), .val (.double r1), .second, .val (.int (0 : Int32)), .unset, .unset] [(.ref a0)]) := by
    intro t kt
    refine K70 t ?_
    refine XS.iload X69.here hx rfl (hb hby d6_106) rfl ?_
    show own_S p e below T69 (mkF m 108 _ [(.int (1 : Int32))]) _
    refine XS.ifNo X69.here hx rfl (hb hby d6_108) rfl ((if0 _ _).trans (flt (by decide)).1) ?_
    show own_S p e below T69 (mkF m 111 _ []) _
    refine XS.aloadN X69.here hx rfl (hb hby d6_111) rfl rfl ?_
    show own_S p e below T69 (mkF m 112 _ [(.ref a0)]) _
    exact kt
  have f72 := ((((fc_8.ext E3).other W24 (Or.inl ne_a0_b3)).other W46 (Or.inl ne_a0_b3)).ext E66)
  obtain ⟨T73, X73, e73, st73⟩ := getF X69 hx hZ hown (host := "") (Or.inl (hw _ (List.mem_of_getElem? (i := 34) rfl))) Via.refl e69 f72 (g := (mkF m 112 #[.val (.ref a0), .val (.ref a1), .val (.ref b3), .val (.ref b66), .val (.int (1 : Int32)), .val (.double r1), .second, .val (.int (0 : Int32)), .unset, .unset] [(.ref a0)])) rfl rfl (hb hby d6_112)
  have K73 : own_K p e below G0 T73 (mkF m 115 #[.val (.ref a0), .val (.ref a1), .val (.ref b3), .val (.ref b66), .val (.int (1 : Int32)), .val (.double r1), .second, .val (.int (0 : Int32)), .unset, .unset] [(.ref pu)]) := fun t kt => K71 t (st73 _ kt)
  have K74 : own_K p e below G0 T73 (mkF m 117 #[.val (.ref a0), .val (.ref a1), .val (.ref b3), .val (.ref b66), .val (.int (1 : Int32)), .val (.double r1), .second, .val (.int (0 : Int32)), .unset, .unset] [(.int (1 : Int32)), (.ref pu)]) := by
    intro t kt
    refine K73 t ?_
    refine XS.iload X73.here hx rfl (hb hby d6_115) rfl ?_
    show own_S p e below T73 (mkF m 117 _ [(.int (1 : Int32)), (.ref pu)]) _
    exact kt
  have f75 := (f59.ext E66)
  obtain ⟨cl76, Ar76, qq76, S76, M76, H76, GG76⟩ := id f75
  have hin76 : ¬ ((1 : Int32) < 0 ∨ cl76.slots.size ≤ ((1 : Int32)).toNatClampNeg) := inb_of S76 ⟨by decide, by decide⟩
  have hat76 : cl76.slots[((1 : Int32)).toNatClampNeg]? = some (.ref rc) := Has.at H76 hin76 rfl
  have K77 : own_K p e below G0 T73 (mkF m 121 #[.val (.ref a0), .val (.ref a1), .val (.ref b3), .val (.ref b66), .val (.int (1 : Int32)), .val (.ref rc), .unset, .val (.int (0 : Int32)), .unset, .unset] [(.ref a0)]) := by
    intro t kt
    refine K74 t ?_
    refine X73.aaload hx (j := (1 : Int32)) (v := (.ref rc)) (by rw [e73]; exact (Ar76).1) (State.isArrayOf_alike hZ.alike (Ar76).2.1) rfl (Ar76).2.2 hin76 hat76 (g := (mkF m 117 #[.val (.ref a0), .val (.ref a1), .val (.ref b3), .val (.ref b66), .val (.int (1 : Int32)), .val (.double r1), .second, .val (.int (0 : Int32)), .unset, .unset] [(.int (1 : Int32)), (.ref pu)])) rfl rfl (hb hby d6_117) _ ?_
    show own_S p e below T73 (mkF m 118 _ [(.ref rc)]) _
    refine XS.astore X73.here hx rfl (hb hby d6_118) rfl rfl (l' := #[.val (.ref a0), .val (.ref a1), .val (.ref b3), .val (.ref b66), .val (.int (1 : Int32)), .val (.ref rc), .unset, .val (.int (0 : Int32)), .unset, .unset]) rfl ?_
    show own_S p e below T73 (mkF m 120 _ []) _
    refine XS.aloadN X73.here hx rfl (hb hby d6_120) rfl rfl ?_
    show own_S p e below T73 (mkF m 121 _ [(.ref a0)]) _
    exact kt
  have f78 := ((((fc_9.ext E3).other W24 (Or.inl ne_a0_b3)).other W46 (Or.inl ne_a0_b3)).ext E66)
  obtain ⟨T79, X79, e79, st79⟩ := getF X73 hx hZ hown (host := "") (Or.inl (hw _ (List.mem_of_getElem? (i := 36) rfl))) Via.refl e73 f78 (g := (mkF m 121 #[.val (.ref a0), .val (.ref a1), .val (.ref b3), .val (.ref b66), .val (.int (1 : Int32)), .val (.ref rc), .unset, .val (.int (0 : Int32)), .unset, .unset] [(.ref a0)])) rfl rfl (hb hby d6_121)
  have K79 : own_K p e below G0 T79 (mkF m 124 #[.val (.ref a0), .val (.ref a1), .val (.ref b3), .val (.ref b66), .val (.int (1 : Int32)), .val (.ref rc), .unset, .val (.int (0 : Int32)), .unset, .unset] [(.ref pc)]) := fun t kt => K77 t (st79 _ kt)
  have K80 : own_K p e below G0 T79 (mkF m 126 #[.val (.ref a0), .val (.ref a1), .val (.ref b3), .val (.ref b66), .val (.int (1 : Int32)), .val (.ref rc), .unset, .val (.int (0 : Int32)), .unset, .unset] [(.int (1 : Int32)), (.ref pc)]) := by
    intro t kt
    refine K79 t ?_
    refine XS.iload X79.here hx rfl (hb hby d6_124) rfl ?_
    show own_S p e below T79 (mkF m 126 _ [(.int (1 : Int32)), (.ref pc)]) _
    exact kt
  have f81 := (f60.ext E66)
  obtain ⟨cl82, Ar82, qq82, S82, M82, H82, GG82⟩ := id f81
  have hin82 : ¬ ((1 : Int32) < 0 ∨ cl82.slots.size ≤ ((1 : Int32)).toNatClampNeg) := inb_of S82 ⟨by decide, by decide⟩
  have hat82 : cl82.slots[((1 : Int32)).toNatClampNeg]? = some (.ref cc) := Has.at H82 hin82 rfl
  have K83 : own_K p e below G0 T79 (mkF m 132 #[.val (.ref a0), .val (.ref a1), .val (.ref b3), .val (.ref b66), .val (.int (1 : Int32)), .val (.ref rc), .val (.ref cc), .val (.int (0 : Int32)), .unset, .unset] [(.int (1 : Int32)), (.ref b3)]) := by
    intro t kt
    refine K80 t ?_
    refine X79.aaload hx (j := (1 : Int32)) (v := (.ref cc)) (by rw [e79]; exact (Ar82).1) (State.isArrayOf_alike hZ.alike (Ar82).2.1) rfl (Ar82).2.2 hin82 hat82 (g := (mkF m 126 #[.val (.ref a0), .val (.ref a1), .val (.ref b3), .val (.ref b66), .val (.int (1 : Int32)), .val (.ref rc), .unset, .val (.int (0 : Int32)), .unset, .unset] [(.int (1 : Int32)), (.ref pc)])) rfl rfl (hb hby d6_126) _ ?_
    show own_S p e below T79 (mkF m 127 _ [(.ref cc)]) _
    refine XS.astore X79.here hx rfl (hb hby d6_127) rfl rfl (l' := #[.val (.ref a0), .val (.ref a1), .val (.ref b3), .val (.ref b66), .val (.int (1 : Int32)), .val (.ref rc), .val (.ref cc), .val (.int (0 : Int32)), .unset, .unset]) rfl ?_
    show own_S p e below T79 (mkF m 129 _ []) _
    refine XS.aloadN X79.here hx rfl (hb hby d6_129) rfl rfl ?_
    show own_S p e below T79 (mkF m 130 _ [(.ref b3)]) _
    refine XS.iload X79.here hx rfl (hb hby d6_130) rfl ?_
    show own_S p e below T79 (mkF m 132 _ [(.int (1 : Int32)), (.ref b3)]) _
    exact kt
  have f84 := (VL46.ext E66)
  obtain ⟨cl85, Ar85, qq85, S85, M85, H85, GG85⟩ := id f84
  have hin85 : ¬ ((1 : Int32) < 0 ∨ cl85.slots.size ≤ ((1 : Int32)).toNatClampNeg) := inb_of S85 ⟨by decide, by decide⟩
  have hat85 : cl85.slots[((1 : Int32)).toNatClampNeg]? = some (.double r1) := Has.at H85 hin85 rfl
  have K86 : own_K p e below G0 T79 (mkF m 142 #[.val (.ref a0), .val (.ref a1), .val (.ref b3), .val (.ref b66), .val (.int (1 : Int32)), .val (.ref rc), .val (.ref cc), .val (.double r1), .second, .val (.int (1 : Int32))] [(.ref rc), (.int (1 : Int32))]) := by
    intro t kt
    refine K83 t ?_
    refine X79.daload hx (j := (1 : Int32)) (v := (.double r1)) (by rw [e79]; exact (Ar85).1) (State.isArrayOf_alike hZ.alike (Ar85).2.1) (Ar85).2.2 hin85 hat85 (g := (mkF m 132 #[.val (.ref a0), .val (.ref a1), .val (.ref b3), .val (.ref b66), .val (.int (1 : Int32)), .val (.ref rc), .val (.ref cc), .val (.int (0 : Int32)), .unset, .unset] [(.int (1 : Int32)), (.ref b3)])) rfl rfl (hb hby d6_132) _ ?_
    show own_S p e below T79 (mkF m 133 _ [(.double r1)]) _
    refine XS.dstore X79.here hx rfl (hb hby d6_133) rfl (l' := #[.val (.ref a0), .val (.ref a1), .val (.ref b3), .val (.ref b66), .val (.int (1 : Int32)), .val (.ref rc), .val (.ref cc), .val (.double r1), .second, .unset]) rfl ?_
    show own_S p e below T79 (mkF m 135 _ []) _
    refine XS.iconst X79.here hx rfl (hb hby d6_135) ?_
    show own_S p e below T79 (mkF m 136 _ [(.int (1 : Int32))]) _
    refine XS.istore X79.here hx rfl (hb hby d6_136) rfl (l' := #[.val (.ref a0), .val (.ref a1), .val (.ref b3), .val (.ref b66), .val (.int (1 : Int32)), .val (.ref rc), .val (.ref cc), .val (.double r1), .second, .val (.int (1 : Int32))]) rfl ?_
    show own_S p e below T79 (mkF m 138 _ []) _
    refine XS.iload X79.here hx rfl (hb hby d6_138) rfl ?_
    show own_S p e below T79 (mkF m 140 _ [(.int (1 : Int32))]) _
    refine XS.aload X79.here hx rfl (hb hby d6_140) rfl rfl ?_
    show own_S p e below T79 (mkF m 142 _ [(.ref rc), (.int (1 : Int32))]) _
    exact kt
  have f87 := (f64.ext E66)
  obtain ⟨cl88, Ar88, qq88, S88, M88, H88, GG88⟩ := id f87
  have K89 : own_K p e below G0 T79 (mkF m 174 #[.val (.ref a0), .val (.ref a1), .val (.ref b3), .val (.ref b66), .val (.int (1 : Int32)), .val (.ref rc), .val (.ref cc), .val (.double r1), .second, .val (.int (1 : Int32))] [(.int (0 : Int32)), (.ref rc), (.ref b66)]) := by
    intro t kt
    refine K86 t ?_
    refine X79.arraylength hx (by rw [e79]; exact (Ar88).1) (State.isArrayOf_alike hZ.alike (Ar88).2.1) (g := (mkF m 142 #[.val (.ref a0), .val (.ref a1), .val (.ref b3), .val (.ref b66), .val (.int (1 : Int32)), .val (.ref rc), .val (.ref cc), .val (.double r1), .second, .val (.int (1 : Int32))] [(.ref rc), (.int (1 : Int32))])) rfl rfl (hb hby d6_142) _ ?_
    rw [len_of S88 M88]
    show own_S p e below T79 (mkF m 143 #[.val (.ref a0), .val (.ref a1), .val (.ref b3), .val (.ref b66), .val (.int (1 : Int32)), .val (.ref rc), .val (.ref cc), .val (.double r1), .second, .val (.int (1 : Int32))] [(.int (1 : Int32)), (.int (1 : Int32))]) _
    refine XS.icmpYes X79.here hx rfl (pc0 := 143) (pc' := 170) rfl (hb hby d6_143) rfl (flt (by decide)).2.1 (by decide) (by decide) ?_
    show own_S p e below T79 (mkF m 170 _ []) _
    refine XS.aloadN X79.here hx rfl (hb hby d6_170) rfl rfl ?_
    show own_S p e below T79 (mkF m 171 _ [(.ref b66)]) _
    refine XS.aload X79.here hx rfl (hb hby d6_171) rfl rfl ?_
    show own_S p e below T79 (mkF m 173 _ [(.ref rc), (.ref b66)]) _
    refine XS.iconst X79.here hx rfl (hb hby d6_173) ?_
    show own_S p e below T79 (mkF m 174 _ [(.int (0 : Int32)), (.ref rc), (.ref b66)]) _
    exact kt
  obtain ⟨cl90, Ar90, qq90, S90, M90, H90, GG90⟩ := id f87
  have hin90 : ¬ ((0 : Int32) < 0 ∨ cl90.slots.size ≤ ((0 : Int32)).toNatClampNeg) := inb_of S90 ⟨by decide, by decide⟩
  have hat90 : cl90.slots[((0 : Int32)).toNatClampNeg]? = some (.int g1) := Has.at H90 hin90 rfl
  have K91 : own_K p e below G0 T79 (mkF m 180 #[.val (.ref a0), .val (.ref a1), .val (.ref b3), .val (.ref b66), .val (.int (1 : Int32)), .val (.ref rc), .val (.ref cc), .val (.double r1), .second, .val (.int (1 : Int32))] [(.int (0 : Int32)), (.ref cc), (.double r1), (.int g1), (.ref b66)]) := by
    intro t kt
    refine K89 t ?_
    refine X79.iaload hx (j := (0 : Int32)) (v := (.int g1)) (by rw [e79]; exact (Ar90).1) (State.isArrayOf_alike hZ.alike (Ar90).2.1) (Ar90).2.2 hin90 hat90 (g := (mkF m 174 #[.val (.ref a0), .val (.ref a1), .val (.ref b3), .val (.ref b66), .val (.int (1 : Int32)), .val (.ref rc), .val (.ref cc), .val (.double r1), .second, .val (.int (1 : Int32))] [(.int (0 : Int32)), (.ref rc), (.ref b66)])) rfl rfl (hb hby d6_174) _ ?_
    show own_S p e below T79 (mkF m 175 _ [(.int g1), (.ref b66)]) _
    refine XS.dload X79.here hx rfl (hb hby d6_175) rfl ?_
    show own_S p e below T79 (mkF m 177 _ [(.double r1), (.int g1), (.ref b66)]) _
    refine XS.aload X79.here hx rfl (hb hby d6_177) rfl rfl ?_
    show own_S p e below T79 (mkF m 179 _ [(.ref cc), (.double r1), (.int g1), (.ref b66)]) _
    refine XS.iconst X79.here hx rfl (hb hby d6_179) ?_
    show own_S p e below T79 (mkF m 180 _ [(.int (0 : Int32)), (.ref cc), (.double r1), (.int g1), (.ref b66)]) _
    exact kt
  have f92 := (f65.ext E66)
  obtain ⟨cl93, Ar93, qq93, S93, M93, H93, GG93⟩ := id f92
  have hin93 : ¬ ((0 : Int32) < 0 ∨ cl93.slots.size ≤ ((0 : Int32)).toNatClampNeg) := inb_of S93 ⟨by decide, by decide⟩
  have hat93 : cl93.slots[((0 : Int32)).toNatClampNeg]? = some (.double dc) := Has.at H93 hin93 rfl
  have K94 : own_K p e below G0 T79 (mkF m 182 #[.val (.ref a0), .val (.ref a1), .val (.ref b3), .val (.ref b66), .val (.int (1 : Int32)), .val (.ref rc), .val (.ref cc), .val (.double r1), .second, .val (.int (1 : Int32))] [(.double (FP.ddiv r1 dc)), (.int g1), (.ref b66)]) := by
    intro t kt
    refine K91 t ?_
    refine X79.daload hx (j := (0 : Int32)) (v := (.double dc)) (by rw [e79]; exact (Ar93).1) (State.isArrayOf_alike hZ.alike (Ar93).2.1) (Ar93).2.2 hin93 hat93 (g := (mkF m 180 #[.val (.ref a0), .val (.ref a1), .val (.ref b3), .val (.ref b66), .val (.int (1 : Int32)), .val (.ref rc), .val (.ref cc), .val (.double r1), .second, .val (.int (1 : Int32))] [(.int (0 : Int32)), (.ref cc), (.double r1), (.int g1), (.ref b66)])) rfl rfl (hb hby d6_180) _ ?_
    show own_S p e below T79 (mkF m 181 _ [(.double dc), (.double r1), (.int g1), (.ref b66)]) _
    refine XS.ddivS X79.here hx rfl (hb hby d6_181) rfl (own_V_nonan qx) rfl ?_
    show own_S p e below T79 (mkF m 182 _ [(.double (FP.ddiv r1 dc)), (.int g1), (.ref b66)]) _
    exact kt
  obtain ⟨cl95, Ar95, qq95, S95, M95, H95, GG95⟩ := id VSb66
  have hin95 := inb_of S95 (own_in3 hR1)
  obtain ⟨T96, h96, X96, e96, W96, st96⟩ := stD X79 hx hZ e79 Ar95 (j := g1) hin95 (g := (mkF m 182 #[.val (.ref a0), .val (.ref a1), .val (.ref b3), .val (.ref b66), .val (.int (1 : Int32)), .val (.ref rc), .val (.ref cc), .val (.double r1), .second, .val (.int (1 : Int32))] [(.double (FP.ddiv r1 dc)), (.int g1), (.ref b66)])) rfl rfl (hb hby d6_182)
  have K96 : own_K p e below G0 T96 (mkF m 183 #[.val (.ref a0), .val (.ref a1), .val (.ref b3), .val (.ref b66), .val (.int (1 : Int32)), .val (.ref rc), .val (.ref cc), .val (.double r1), .second, .val (.int (1 : Int32))] []) := fun t kt => K94 t (st96 _ kt)
  have Z96 : n0 ≤ h96.size := Nat.le_trans Z66 (Keep.of_wr W96).1
  have VL96 : Arv Z h96 b66 k66 .double (3 : Int32) (own_l3 (own_u g1 (.double (FP.ddiv r1 dc)) (fun _ => (.double 0)))) (.double 0) := by
    rw [← own_s3 hR1]
    exact Arv.set Ar95 qq95 S95 M95 H95 GG95 rfl W96 (g1).toNatClampNeg rfl (own_n3 hR1)
  have N96 := Fr.snoc X96 N46 gn66
  have K97 : own_K p e below G0 T96 (mkF m 186 #[.val (.ref a0), .val (.ref a1), .val (.ref b3), .val (.ref b66), .val (.int ((1 : Int32) + (-1 : Int32))), .val (.ref rc), .val (.ref cc), .val (.double r1), .second, .val (.int (1 : Int32))] []) := by
    intro t kt
    refine K96 t ?_
    refine XS.iinc X96.here hx rfl (hb hby d6_183) rfl (l' := #[.val (.ref a0), .val (.ref a1), .val (.ref b3), .val (.ref b66), .val (.int ((1 : Int32) + (-1 : Int32))), .val (.ref rc), .val (.ref cc), .val (.double r1), .second, .val (.int (1 : Int32))]) rfl ?_
    show own_S p e below T96 (mkF m 186 _ []) _
    exact kt
  rw [show ((1 : Int32) + (-1 : Int32)) = (0 : Int32) from by decide] at K97
  have K98 : own_K p e below G0 T96 (mkF m 112 #[.val (.ref a0), .val (.ref a1), .val (.ref b3), .val (.ref b66), .val (.int (0 : Int32)), .val (.ref rc), .val (.ref cc), .val (.double r1), .second, .val (.int (1 : Int32))] [(.ref a0)]) := by
    intro t kt
    refine K97 t ?_
    refine XS.goto X96.here hx rfl (pc0 := 186) (pc' := 106) rfl (hb hby d6_186) (by decide) (by decide) ?_
    show own_S p e below T96 (mkF m 106 _ []) _
    refine XS.iload X96.here hx rfl (hb hby d6_106) rfl ?_
    show own_S p e below T96 (mkF m 108 _ [(.int (0 : Int32))]) _
    refine XS.ifNo X96.here hx rfl (hb hby d6_108) rfl ((if0 _ _).trans (flt (by decide)).1) ?_
    show own_S p e below T96 (mkF m 111 _ []) _
    refine XS.aloadN X96.here hx rfl (hb hby d6_111) rfl rfl ?_
    show own_S p e below T96 (mkF m 112 _ [(.ref a0)]) _
    exact kt
  have f99 := (f72.other W96 (Or.inl ne_a0_b66))
  obtain ⟨T100, X100, e100, st100⟩ := getF X96 hx hZ hown (host := "") (Or.inl (hw _ (List.mem_of_getElem? (i := 34) rfl))) Via.refl e96 f99 (g := (mkF m 112 #[.val (.ref a0), .val (.ref a1), .val (.ref b3), .val (.ref b66), .val (.int (0 : Int32)), .val (.ref rc), .val (.ref cc), .val (.double r1), .second, .val (.int (1 : Int32))] [(.ref a0)])) rfl rfl (hb hby d6_112)
  have K100 : own_K p e below G0 T100 (mkF m 115 #[.val (.ref a0), .val (.ref a1), .val (.ref b3), .val (.ref b66), .val (.int (0 : Int32)), .val (.ref rc), .val (.ref cc), .val (.double r1), .second, .val (.int (1 : Int32))] [(.ref pu)]) := fun t kt => K98 t (st100 _ kt)
  have K101 : own_K p e below G0 T100 (mkF m 117 #[.val (.ref a0), .val (.ref a1), .val (.ref b3), .val (.ref b66), .val (.int (0 : Int32)), .val (.ref rc), .val (.ref cc), .val (.double r1), .second, .val (.int (1 : Int32))] [(.int (0 : Int32)), (.ref pu)]) := by
    intro t kt
    refine K100 t ?_
    refine XS.iload X100.here hx rfl (hb hby d6_115) rfl ?_
    show own_S p e below T100 (mkF m 117 _ [(.int (0 : Int32)), (.ref pu)]) _
    exact kt
  have f102 := (f75.other W96 ne_pu_b66)
  obtain ⟨cl103, Ar103, qq103, S103, M103, H103, GG103⟩ := id f102
  have hin103 : ¬ ((0 : Int32) < 0 ∨ cl103.slots.size ≤ ((0 : Int32)).toNatClampNeg) := inb_of S103 ⟨by decide, by decide⟩
  have hat103 : cl103.slots[((0 : Int32)).toNatClampNeg]? = some (.ref ra) := Has.at H103 hin103 rfl
  have K104 : own_K p e below G0 T100 (mkF m 121 #[.val (.ref a0), .val (.ref a1), .val (.ref b3), .val (.ref b66), .val (.int (0 : Int32)), .val (.ref ra), .val (.ref cc), .val (.double r1), .second, .val (.int (1 : Int32))] [(.ref a0)]) := by
    intro t kt
    refine K101 t ?_
    refine X100.aaload hx (j := (0 : Int32)) (v := (.ref ra)) (by rw [e100]; exact (Ar103).1) (State.isArrayOf_alike hZ.alike (Ar103).2.1) rfl (Ar103).2.2 hin103 hat103 (g := (mkF m 117 #[.val (.ref a0), .val (.ref a1), .val (.ref b3), .val (.ref b66), .val (.int (0 : Int32)), .val (.ref rc), .val (.ref cc), .val (.double r1), .second, .val (.int (1 : Int32))] [(.int (0 : Int32)), (.ref pu)])) rfl rfl (hb hby d6_117) _ ?_
    show own_S p e below T100 (mkF m 118 _ [(.ref ra)]) _
    refine XS.astore X100.here hx rfl (hb hby d6_118) rfl rfl (l' := #[.val (.ref a0), .val (.ref a1), .val (.ref b3), .val (.ref b66), .val (.int (0 : Int32)), .val (.ref ra), .val (.ref cc), .val (.double r1), .second, .val (.int (1 : Int32))]) rfl ?_
    show own_S p e below T100 (mkF m 120 _ []) _
    refine XS.aloadN X100.here hx rfl (hb hby d6_120) rfl rfl ?_
    show own_S p e below T100 (mkF m 121 _ [(.ref a0)]) _
    exact kt
  have f105 := (f78.other W96 (Or.inl ne_a0_b66))
  obtain ⟨T106, X106, e106, st106⟩ := getF X100 hx hZ hown (host := "") (Or.inl (hw _ (List.mem_of_getElem? (i := 36) rfl))) Via.refl e100 f105 (g := (mkF m 121 #[.val (.ref a0), .val (.ref a1), .val (.ref b3), .val (.ref b66), .val (.int (0 : Int32)), .val (.ref ra), .val (.ref cc), .val (.double r1), .second, .val (.int (1 : Int32))] [(.ref a0)])) rfl rfl (hb hby d6_121)
  have K106 : own_K p e below G0 T106 (mkF m 124 #[.val (.ref a0), .val (.ref a1), .val (.ref b3), .val (.ref b66), .val (.int (0 : Int32)), .val (.ref ra), .val (.ref cc), .val (.double r1), .second, .val (.int (1 : Int32))] [(.ref pc)]) := fun t kt => K104 t (st106 _ kt)
  have K107 : own_K p e below G0 T106 (mkF m 126 #[.val (.ref a0), .val (.ref a1), .val (.ref b3), .val (.ref b66), .val (.int (0 : Int32)), .val (.ref ra), .val (.ref cc), .val (.double r1), .second, .val (.int (1 : Int32))] [(.int (0 : Int32)), (.ref pc)]) := by
    intro t kt
    refine K106 t ?_
    refine XS.iload X106.here hx rfl (hb hby d6_124) rfl ?_
    show own_S p e below T106 (mkF m 126 _ [(.int (0 : Int32)), (.ref pc)]) _
    exact kt
  have f108 := (f81.other W96 ne_pc_b66)
  obtain ⟨cl109, Ar109, qq109, S109, M109, H109, GG109⟩ := id f108
  have hin109 : ¬ ((0 : Int32) < 0 ∨ cl109.slots.size ≤ ((0 : Int32)).toNatClampNeg) := inb_of S109 ⟨by decide, by decide⟩
  have hat109 : cl109.slots[((0 : Int32)).toNatClampNeg]? = some (.ref ca) := Has.at H109 hin109 rfl
  have K110 : own_K p e below G0 T106 (mkF m 132 #[.val (.ref a0), .val (.ref a1), .val (.ref b3), .val (.ref b66), .val (.int (0 : Int32)), .val (.ref ra), .val (.ref ca), .val (.double r1), .second, .val (.int (1 : Int32))] [(.int (0 : Int32)), (.ref b3)]) := by
    intro t kt
    refine K107 t ?_
    refine X106.aaload hx (j := (0 : Int32)) (v := (.ref ca)) (by rw [e106]; exact (Ar109).1) (State.isArrayOf_alike hZ.alike (Ar109).2.1) rfl (Ar109).2.2 hin109 hat109 (g := (mkF m 126 #[.val (.ref a0), .val (.ref a1), .val (.ref b3), .val (.ref b66), .val (.int (0 : Int32)), .val (.ref ra), .val (.ref cc), .val (.double r1), .second, .val (.int (1 : Int32))] [(.int (0 : Int32)), (.ref pc)])) rfl rfl (hb hby d6_126) _ ?_
    show own_S p e below T106 (mkF m 127 _ [(.ref ca)]) _
    refine XS.astore X106.here hx rfl (hb hby d6_127) rfl rfl (l' := #[.val (.ref a0), .val (.ref a1), .val (.ref b3), .val (.ref b66), .val (.int (0 : Int32)), .val (.ref ra), .val (.ref ca), .val (.double r1), .second, .val (.int (1 : Int32))]) rfl ?_
    show own_S p e below T106 (mkF m 129 _ []) _
    refine XS.aloadN X106.here hx rfl (hb hby d6_129) rfl rfl ?_
    show own_S p e below T106 (mkF m 130 _ [(.ref b3)]) _
    refine XS.iload X106.here hx rfl (hb hby d6_130) rfl ?_
    show own_S p e below T106 (mkF m 132 _ [(.int (0 : Int32)), (.ref b3)]) _
    exact kt
  have f111 := (f84.other W96 ne_b3_b66)
  obtain ⟨cl112, Ar112, qq112, S112, M112, H112, GG112⟩ := id f111
  have hin112 : ¬ ((0 : Int32) < 0 ∨ cl112.slots.size ≤ ((0 : Int32)).toNatClampNeg) := inb_of S112 ⟨by decide, by decide⟩
  have hat112 : cl112.slots[((0 : Int32)).toNatClampNeg]? = some (.double r0) := Has.at H112 hin112 rfl
  have K113 : own_K p e below G0 T106 (mkF m 142 #[.val (.ref a0), .val (.ref a1), .val (.ref b3), .val (.ref b66), .val (.int (0 : Int32)), .val (.ref ra), .val (.ref ca), .val (.double r0), .second, .val (.int (1 : Int32))] [(.ref ra), (.int (1 : Int32))]) := by
    intro t kt
    refine K110 t ?_
    refine X106.daload hx (j := (0 : Int32)) (v := (.double r0)) (by rw [e106]; exact (Ar112).1) (State.isArrayOf_alike hZ.alike (Ar112).2.1) (Ar112).2.2 hin112 hat112 (g := (mkF m 132 #[.val (.ref a0), .val (.ref a1), .val (.ref b3), .val (.ref b66), .val (.int (0 : Int32)), .val (.ref ra), .val (.ref ca), .val (.double r1), .second, .val (.int (1 : Int32))] [(.int (0 : Int32)), (.ref b3)])) rfl rfl (hb hby d6_132) _ ?_
    show own_S p e below T106 (mkF m 133 _ [(.double r0)]) _
    refine XS.dstore X106.here hx rfl (hb hby d6_133) rfl (l' := #[.val (.ref a0), .val (.ref a1), .val (.ref b3), .val (.ref b66), .val (.int (0 : Int32)), .val (.ref ra), .val (.ref ca), .val (.double r0), .second, .val (.int (1 : Int32))]) rfl ?_
    show own_S p e below T106 (mkF m 135 _ []) _
    refine XS.iconst X106.here hx rfl (hb hby d6_135) ?_
    show own_S p e below T106 (mkF m 136 _ [(.int (1 : Int32))]) _
    refine XS.istore X106.here hx rfl (hb hby d6_136) rfl (l' := #[.val (.ref a0), .val (.ref a1), .val (.ref b3), .val (.ref b66), .val (.int (0 : Int32)), .val (.ref ra), .val (.ref ca), .val (.double r0), .second, .val (.int (1 : Int32))]) rfl ?_
    show own_S p e below T106 (mkF m 138 _ []) _
    refine XS.iload X106.here hx rfl (hb hby d6_138) rfl ?_
    show own_S p e below T106 (mkF m 140 _ [(.int (1 : Int32))]) _
    refine XS.aload X106.here hx rfl (hb hby d6_140) rfl rfl ?_
    show own_S p e below T106 (mkF m 142 _ [(.ref ra), (.int (1 : Int32))]) _
    exact kt
  have f114 := ((f62.ext E66).other W96 ne_ra_b66)
  obtain ⟨cl115, Ar115, qq115, S115, M115, H115, GG115⟩ := id f114
  have K116 : own_K p e below G0 T106 (mkF m 152 #[.val (.ref a0), .val (.ref a1), .val (.ref b3), .val (.ref b66), .val (.int (0 : Int32)), .val (.ref ra), .val (.ref ca), .val (.double r0), .second, .val (.int (1 : Int32))] [(.int (1 : Int32)), (.ref ca), (.double r0)]) := by
    intro t kt
    refine K113 t ?_
    refine X106.arraylength hx (by rw [e106]; exact (Ar115).1) (State.isArrayOf_alike hZ.alike (Ar115).2.1) (g := (mkF m 142 #[.val (.ref a0), .val (.ref a1), .val (.ref b3), .val (.ref b66), .val (.int (0 : Int32)), .val (.ref ra), .val (.ref ca), .val (.double r0), .second, .val (.int (1 : Int32))] [(.ref ra), (.int (1 : Int32))])) rfl rfl (hb hby d6_142) _ ?_
    rw [len_of S115 M115]
    show own_S p e below T106 (mkF m 143 #[.val (.ref a0), .val (.ref a1), .val (.ref b3), .val (.ref b66), .val (.int (0 : Int32)), .val (.ref ra), .val (.ref ca), .val (.double r0), .second, .val (.int (1 : Int32))] [(.int (2 : Int32)), (.int (1 : Int32))]) _
    refine XS.icmpNo X106.here hx rfl (hb hby d6_143) rfl (tlt (by decide)).2.1 ?_
    show own_S p e below T106 (mkF m 146 _ []) _
    refine XS.dload X106.here hx rfl (hb hby d6_146) rfl ?_
    show own_S p e below T106 (mkF m 148 _ [(.double r0)]) _
    refine XS.aload X106.here hx rfl (hb hby d6_148) rfl rfl ?_
    show own_S p e below T106 (mkF m 150 _ [(.ref ca), (.double r0)]) _
    refine XS.iload X106.here hx rfl (hb hby d6_150) rfl ?_
    show own_S p e below T106 (mkF m 152 _ [(.int (1 : Int32)), (.ref ca), (.double r0)]) _
    exact kt
  have f117 := ((f63.ext E66).other W96 ne_ca_b66)
  obtain ⟨cl118, Ar118, qq118, S118, M118, H118, GG118⟩ := id f117
  have hin118 : ¬ ((1 : Int32) < 0 ∨ cl118.slots.size ≤ ((1 : Int32)).toNatClampNeg) := inb_of S118 ⟨by decide, by decide⟩
  have hat118 : cl118.slots[((1 : Int32)).toNatClampNeg]? = some (.double db) := Has.at H118 hin118 rfl
  have K119 : own_K p e below G0 T106 (mkF m 158 #[.val (.ref a0), .val (.ref a1), .val (.ref b3), .val (.ref b66), .val (.int (0 : Int32)), .val (.ref ra), .val (.ref ca), .val (.double r0), .second, .val (.int (1 : Int32))] [(.int (1 : Int32)), (.ref ra), (.ref b66), (.double db), (.double r0)]) := by
    intro t kt
    refine K116 t ?_
    refine X106.daload hx (j := (1 : Int32)) (v := (.double db)) (by rw [e106]; exact (Ar118).1) (State.isArrayOf_alike hZ.alike (Ar118).2.1) (Ar118).2.2 hin118 hat118 (g := (mkF m 152 #[.val (.ref a0), .val (.ref a1), .val (.ref b3), .val (.ref b66), .val (.int (0 : Int32)), .val (.ref ra), .val (.ref ca), .val (.double r0), .second, .val (.int (1 : Int32))] [(.int (1 : Int32)), (.ref ca), (.double r0)])) rfl rfl (hb hby d6_152) _ ?_
    show own_S p e below T106 (mkF m 153 _ [(.double db), (.double r0)]) _
    refine XS.aloadN X106.here hx rfl (hb hby d6_153) rfl rfl ?_
    show own_S p e below T106 (mkF m 154 _ [(.ref b66), (.double db), (.double r0)]) _
    refine XS.aload X106.here hx rfl (hb hby d6_154) rfl rfl ?_
    show own_S p e below T106 (mkF m 156 _ [(.ref ra), (.ref b66), (.double db), (.double r0)]) _
    refine XS.iload X106.here hx rfl (hb hby d6_156) rfl ?_
    show own_S p e below T106 (mkF m 158 _ [(.int (1 : Int32)), (.ref ra), (.ref b66), (.double db), (.double r0)]) _
    exact kt
  obtain ⟨cl120, Ar120, qq120, S120, M120, H120, GG120⟩ := id f114
  have hin120 : ¬ ((1 : Int32) < 0 ∨ cl120.slots.size ≤ ((1 : Int32)).toNatClampNeg) := inb_of S120 ⟨by decide, by decide⟩
  have hat120 : cl120.slots[((1 : Int32)).toNatClampNeg]? = some (.int g1) := Has.at H120 hin120 rfl
  have K121 : own_K p e below G0 T106 (mkF m 159 #[.val (.ref a0), .val (.ref a1), .val (.ref b3), .val (.ref b66), .val (.int (0 : Int32)), .val (.ref ra), .val (.ref ca), .val (.double r0), .second, .val (.int (1 : Int32))] [(.int g1), (.ref b66), (.double db), (.double r0)]) := by
    intro t kt
    refine K119 t ?_
    refine X106.iaload hx (j := (1 : Int32)) (v := (.int g1)) (by rw [e106]; exact (Ar120).1) (State.isArrayOf_alike hZ.alike (Ar120).2.1) (Ar120).2.2 hin120 hat120 (g := (mkF m 158 #[.val (.ref a0), .val (.ref a1), .val (.ref b3), .val (.ref b66), .val (.int (0 : Int32)), .val (.ref ra), .val (.ref ca), .val (.double r0), .second, .val (.int (1 : Int32))] [(.int (1 : Int32)), (.ref ra), (.ref b66), (.double db), (.double r0)])) rfl rfl (hb hby d6_158) _ ?_
    show own_S p e below T106 (mkF m 159 _ [(.int g1), (.ref b66), (.double db), (.double r0)]) _
    exact kt
  obtain ⟨cl122, Ar122, qq122, S122, M122, H122, GG122⟩ := id VL96
  have hin122 := inb_of S122 (own_in3 hR1)
  have hat122 : cl122.slots[(g1).toNatClampNeg]? = some (.double (FP.ddiv r1 dc)) := Has.at H122 hin122 ((own_g3 hR1).trans own_u1)
  have K123 : own_K p e below G0 T106 (mkF m 167 #[.val (.ref a0), .val (.ref a1), .val (.ref b3), .val (.ref b66), .val (.int (0 : Int32)), .val (.ref ra), .val (.ref ca), .val (.double (FP.dsub r0 (FP.dmul db (FP.ddiv r1 dc)))), .second, .val (.int ((1 : Int32) + (1 : Int32)))] []) := by
    intro t kt
    refine K121 t ?_
    refine X106.daload hx (j := g1) (v := (.double (FP.ddiv r1 dc))) (by rw [e106]; exact (Ar122).1) (State.isArrayOf_alike hZ.alike (Ar122).2.1) (Ar122).2.2 hin122 hat122 (g := (mkF m 159 #[.val (.ref a0), .val (.ref a1), .val (.ref b3), .val (.ref b66), .val (.int (0 : Int32)), .val (.ref ra), .val (.ref ca), .val (.double r0), .second, .val (.int (1 : Int32))] [(.int g1), (.ref b66), (.double db), (.double r0)])) rfl rfl (hb hby d6_159) _ ?_
    show own_S p e below T106 (mkF m 160 _ [(.double (FP.ddiv r1 dc)), (.double db), (.double r0)]) _
    refine XS.dmulS X106.here hx rfl (hb hby d6_160) rfl (own_V_nonan qe) rfl ?_
    show own_S p e below T106 (mkF m 161 _ [(.double (FP.dmul db (FP.ddiv r1 dc))), (.double r0)]) _
    refine XS.dsubS X106.here hx rfl (hb hby d6_161) rfl (own_V_nonan qf) rfl ?_
    show own_S p e below T106 (mkF m 162 _ [(.double (FP.dsub r0 (FP.dmul db (FP.ddiv r1 dc))))]) _
    refine XS.dstore X106.here hx rfl (hb hby d6_162) rfl (l' := #[.val (.ref a0), .val (.ref a1), .val (.ref b3), .val (.ref b66), .val (.int (0 : Int32)), .val (.ref ra), .val (.ref ca), .val (.double (FP.dsub r0 (FP.dmul db (FP.ddiv r1 dc)))), .second, .val (.int (1 : Int32))]) rfl ?_
    show own_S p e below T106 (mkF m 164 _ []) _
    refine XS.iinc X106.here hx rfl (hb hby d6_164) rfl (l' := #[.val (.ref a0), .val (.ref a1), .val (.ref b3), .val (.ref b66), .val (.int (0 : Int32)), .val (.ref ra), .val (.ref ca), .val (.double (FP.dsub r0 (FP.dmul db (FP.ddiv r1 dc)))), .second, .val (.int ((1 : Int32) + (1 : Int32)))]) rfl ?_
    show own_S p e below T106 (mkF m 167 _ []) _
    exact kt
  rw [show ((1 : Int32) + (1 : Int32)) = (2 : Int32) from by decide] at K123
  have K124 : own_K p e below G0 T106 (mkF m 142 #[.val (.ref a0), .val (.ref a1), .val (.ref b3), .val (.ref b66), .val (.int (0 : Int32)), .val (.ref ra), .val (.ref ca), .val (.double (FP.dsub r0 (FP.dmul db (FP.ddiv r1 dc)))), .second, .val (.int (2 : Int32))] [(.ref ra), (.int (2 : Int32))]) := by
    intro t kt
    refine K123 t ?_
    refine XS.goto X106.here hx rfl (pc0 := 167) (pc' := 138) rfl (hb hby d6_167) (by decide) (by decide) ?_
    show own_S p e below T106 (mkF m 138 _ []) _
    refine XS.iload X106.here hx rfl (hb hby d6_138) rfl ?_
    show own_S p e below T106 (mkF m 140 _ [(.int (2 : Int32))]) _
    refine XS.aload X106.here hx rfl (hb hby d6_140) rfl rfl ?_
    show own_S p e below T106 (mkF m 142 _ [(.ref ra), (.int (2 : Int32))]) _
    exact kt
  obtain ⟨cl125, Ar125, qq125, S125, M125, H125, GG125⟩ := id f114
  have K126 : own_K p e below G0 T106 (mkF m 174 #[.val (.ref a0), .val (.ref a1), .val (.ref b3), .val (.ref b66), .val (.int (0 : Int32)), .val (.ref ra), .val (.ref ca), .val (.double (FP.dsub r0 (FP.dmul db (FP.ddiv r1 dc)))), .second, .val (.int (2 : Int32))] [(.int (0 : Int32)), (.ref ra), (.ref b66)]) := by
    intro t kt
    refine K124 t ?_
    refine X106.arraylength hx (by rw [e106]; exact (Ar125).1) (State.isArrayOf_alike hZ.alike (Ar125).2.1) (g := (mkF m 142 #[.val (.ref a0), .val (.ref a1), .val (.ref b3), .val (.ref b66), .val (.int (0 : Int32)), .val (.ref ra), .val (.ref ca), .val (.double (FP.dsub r0 (FP.dmul db (FP.ddiv r1 dc)))), .second, .val (.int (2 : Int32))] [(.ref ra), (.int (2 : Int32))])) rfl rfl (hb hby d6_142) _ ?_
    rw [len_of S125 M125]
    show own_S p e below T106 (mkF m 143 #[.val (.ref a0), .val (.ref a1), .val (.ref b3), .val (.ref b66), .val (.int (0 : Int32)), .val (.ref ra), .val (.ref ca), .val (.double (FP.dsub r0 (FP.dmul db (FP.ddiv r1 dc)))), .second, .val (.int (2 : Int32))] [(.int (2 : Int32)), (.int (2 : Int32))]) _
    refine XS.icmpYes X106.here hx rfl (pc0 := 143) (pc' := 170) rfl (hb hby d6_143) rfl (flt (by decide)).2.1 (by decide) (by decide) ?_
    show own_S p e below T106 (mkF m 170 _ []) _
    refine XS.aloadN X106.here hx rfl (hb hby d6_170) rfl rfl ?_
    show own_S p e below T106 (mkF m 171 _ [(.ref b66)]) _
    refine XS.aload X106.here hx rfl (hb hby d6_171) rfl rfl ?_
    show own_S p e below T106 (mkF m 173 _ [(.ref ra), (.ref b66)]) _
    refine XS.iconst X106.here hx rfl (hb hby d6_173) ?_
    show own_S p e below T106 (mkF m 174 _ [(.int (0 : Int32)), (.ref ra), (.ref b66)]) _
    exact kt
  obtain ⟨cl127, Ar127, qq127, S127, M127, H127, GG127⟩ := id f114
  have hin127 : ¬ ((0 : Int32) < 0 ∨ cl127.slots.size ≤ ((0 : Int32)).toNatClampNeg) := inb_of S127 ⟨by decide, by decide⟩
  have hat127 : cl127.slots[((0 : Int32)).toNatClampNeg]? = some (.int g0) := Has.at H127 hin127 rfl
  have K128 : own_K p e below G0 T106 (mkF m 180 #[.val (.ref a0), .val (.ref a1), .val (.ref b3), .val (.ref b66), .val (.int (0 : Int32)), .val (.ref ra), .val (.ref ca), .val (.double (FP.dsub r0 (FP.dmul db (FP.ddiv r1 dc)))), .second, .val (.int (2 : Int32))] [(.int (0 : Int32)), (.ref ca), (.double (FP.dsub r0 (FP.dmul db (FP.ddiv r1 dc)))), (.int g0), (.ref b66)]) := by
    intro t kt
    refine K126 t ?_
    refine X106.iaload hx (j := (0 : Int32)) (v := (.int g0)) (by rw [e106]; exact (Ar127).1) (State.isArrayOf_alike hZ.alike (Ar127).2.1) (Ar127).2.2 hin127 hat127 (g := (mkF m 174 #[.val (.ref a0), .val (.ref a1), .val (.ref b3), .val (.ref b66), .val (.int (0 : Int32)), .val (.ref ra), .val (.ref ca), .val (.double (FP.dsub r0 (FP.dmul db (FP.ddiv r1 dc)))), .second, .val (.int (2 : Int32))] [(.int (0 : Int32)), (.ref ra), (.ref b66)])) rfl rfl (hb hby d6_174) _ ?_
    show own_S p e below T106 (mkF m 175 _ [(.int g0), (.ref b66)]) _
    refine XS.dload X106.here hx rfl (hb hby d6_175) rfl ?_
    show own_S p e below T106 (mkF m 177 _ [(.double (FP.dsub r0 (FP.dmul db (FP.ddiv r1 dc)))), (.int g0), (.ref b66)]) _
    refine XS.aload X106.here hx rfl (hb hby d6_177) rfl rfl ?_
    show own_S p e below T106 (mkF m 179 _ [(.ref ca), (.double (FP.dsub r0 (FP.dmul db (FP.ddiv r1 dc)))), (.int g0), (.ref b66)]) _
    refine XS.iconst X106.here hx rfl (hb hby d6_179) ?_
    show own_S p e below T106 (mkF m 180 _ [(.int (0 : Int32)), (.ref ca), (.double (FP.dsub r0 (FP.dmul db (FP.ddiv r1 dc)))), (.int g0), (.ref b66)]) _
    exact kt
  obtain ⟨cl129, Ar129, qq129, S129, M129, H129, GG129⟩ := id f117
  have hin129 : ¬ ((0 : Int32) < 0 ∨ cl129.slots.size ≤ ((0 : Int32)).toNatClampNeg) := inb_of S129 ⟨by decide, by decide⟩
  have hat129 : cl129.slots[((0 : Int32)).toNatClampNeg]? = some (.double da) := Has.at H129 hin129 rfl
  have K130 : own_K p e below G0 T106 (mkF m 182 #[.val (.ref a0), .val (.ref a1), .val (.ref b3), .val (.ref b66), .val (.int (0 : Int32)), .val (.ref ra), .val (.ref ca), .val (.double (FP.dsub r0 (FP.dmul db (FP.ddiv r1 dc)))), .second, .val (.int (2 : Int32))] [(.double (FP.ddiv (FP.dsub r0 (FP.dmul db (FP.ddiv r1 dc))) da)), (.int g0), (.ref b66)]) := by
    intro t kt
    refine K128 t ?_
    refine X106.daload hx (j := (0 : Int32)) (v := (.double da)) (by rw [e106]; exact (Ar129).1) (State.isArrayOf_alike hZ.alike (Ar129).2.1) (Ar129).2.2 hin129 hat129 (g := (mkF m 180 #[.val (.ref a0), .val (.ref a1), .val (.ref b3), .val (.ref b66), .val (.int (0 : Int32)), .val (.ref ra), .val (.ref ca), .val (.double (FP.dsub r0 (FP.dmul db (FP.ddiv r1 dc)))), .second, .val (.int (2 : Int32))] [(.int (0 : Int32)), (.ref ca), (.double (FP.dsub r0 (FP.dmul db (FP.ddiv r1 dc)))), (.int g0), (.ref b66)])) rfl rfl (hb hby d6_180) _ ?_
    show own_S p e below T106 (mkF m 181 _ [(.double da), (.double (FP.dsub r0 (FP.dmul db (FP.ddiv r1 dc)))), (.int g0), (.ref b66)]) _
    refine XS.ddivS X106.here hx rfl (hb hby d6_181) rfl (own_V_nonan qy) rfl ?_
    show own_S p e below T106 (mkF m 182 _ [(.double (FP.ddiv (FP.dsub r0 (FP.dmul db (FP.ddiv r1 dc))) da)), (.int g0), (.ref b66)]) _
    exact kt
  obtain ⟨cl131, Ar131, qq131, S131, M131, H131, GG131⟩ := id VL96
  have hin131 := inb_of S131 (own_in3 hR0)
  obtain ⟨T132, h132, X132, e132, W132, st132⟩ := stD X106 hx hZ e106 Ar131 (j := g0) hin131 (g := (mkF m 182 #[.val (.ref a0), .val (.ref a1), .val (.ref b3), .val (.ref b66), .val (.int (0 : Int32)), .val (.ref ra), .val (.ref ca), .val (.double (FP.dsub r0 (FP.dmul db (FP.ddiv r1 dc)))), .second, .val (.int (2 : Int32))] [(.double (FP.ddiv (FP.dsub r0 (FP.dmul db (FP.ddiv r1 dc))) da)), (.int g0), (.ref b66)])) rfl rfl (hb hby d6_182)
  have K132 : own_K p e below G0 T132 (mkF m 183 #[.val (.ref a0), .val (.ref a1), .val (.ref b3), .val (.ref b66), .val (.int (0 : Int32)), .val (.ref ra), .val (.ref ca), .val (.double (FP.dsub r0 (FP.dmul db (FP.ddiv r1 dc)))), .second, .val (.int (2 : Int32))] []) := fun t kt => K130 t (st132 _ kt)
  have Z132 : n0 ≤ h132.size := Nat.le_trans Z96 (Keep.of_wr W132).1
  have VL132 : Arv Z h132 b66 k66 .double (3 : Int32) (own_l3 (own_u g0 (.double (FP.ddiv (FP.dsub r0 (FP.dmul db (FP.ddiv r1 dc))) da)) (own_u g1 (.double (FP.ddiv r1 dc)) (fun _ => (.double 0))))) (.double 0) := by
    rw [← own_s3 hR0]
    exact Arv.set Ar131 qq131 S131 M131 H131 GG131 rfl W132 (g0).toNatClampNeg rfl (own_n3 hR0)
  have N132 := Fr.snoc X132 N96 gn66
  have K133 : own_K p e below G0 T132 (mkF m 186 #[.val (.ref a0), .val (.ref a1), .val (.ref b3), .val (.ref b66), .val (.int ((0 : Int32) + (-1 : Int32))), .val (.ref ra), .val (.ref ca), .val (.double (FP.dsub r0 (FP.dmul db (FP.ddiv r1 dc)))), .second, .val (.int (2 : Int32))] []) := by
    intro t kt
    refine K132 t ?_
    refine XS.iinc X132.here hx rfl (hb hby d6_183) rfl (l' := #[.val (.ref a0), .val (.ref a1), .val (.ref b3), .val (.ref b66), .val (.int ((0 : Int32) + (-1 : Int32))), .val (.ref ra), .val (.ref ca), .val (.double (FP.dsub r0 (FP.dmul db (FP.ddiv r1 dc)))), .second, .val (.int (2 : Int32))]) rfl ?_
    show own_S p e below T132 (mkF m 186 _ []) _
    exact kt
  rw [show ((0 : Int32) + (-1 : Int32)) = (-1 : Int32) from by decide] at K133
  have K134 : own_K p e below G0 T132 (mkF m 190 #[.val (.ref a0), .val (.ref a1), .val (.ref b3), .val (.ref b66), .val (.int (-1 : Int32)), .val (.ref ra), .val (.ref ca), .val (.double (FP.dsub r0 (FP.dmul db (FP.ddiv r1 dc)))), .second, .val (.int (2 : Int32))] [(.ref b66)]) := by
    intro t kt
    refine K133 t ?_
    refine XS.goto X132.here hx rfl (pc0 := 186) (pc' := 106) rfl (hb hby d6_186) (by decide) (by decide) ?_
    show own_S p e below T132 (mkF m 106 _ []) _
    refine XS.iload X132.here hx rfl (hb hby d6_106) rfl ?_
    show own_S p e below T132 (mkF m 108 _ [(.int (-1 : Int32))]) _
    refine XS.ifYes X132.here hx rfl (pc0 := 108) (pc' := 189) rfl (hb hby d6_108) rfl ((if0 _ _).trans (tlt (by decide)).1) (by decide) (by decide) ?_
    show own_S p e below T132 (mkF m 189 _ []) _
    refine XS.aloadN X132.here hx rfl (hb hby d6_189) rfl rfl ?_
    show own_S p e below T132 (mkF m 190 _ [(.ref b66)]) _
    exact kt
  have KQ135_0 := Keep.refl h0 []
  have sz135_3 := Nat.le_trans KQ135_0.1 (Nat.le_of_eq g3.symm)
  have KQ135_1 := KQ135_0.ext E3
  have KQ135_2 := KQ135_1.wr W24 (Or.inr sz135_3)
  have KQ135_3 := KQ135_2.wr W46 (Or.inr sz135_3)
  have sz135_66 := Nat.le_trans KQ135_3.1 (Nat.le_of_eq g66.symm)
  have KQ135_4 := KQ135_3.ext E66
  have KQ135_5 := KQ135_4.wr W96 (Or.inr sz135_66)
  have KQ135_6 := KQ135_5.wr W132 (Or.inr sz135_66)
  obtain ⟨fs, hr, hrun, hended, hW, hsame⟩ := X132.leave (v := some (.ref b66)) (fun h => by rw [Bd.returns] at h; cases h)
  refine ⟨_, _, ?_, hrun, hended, _, _, rfl, ?_, ⟨_, rfl⟩, hW, hsame.mono (by decide) (by decide)⟩
  · rw [← hG0]
    refine K134 _ ?_
    exact retOut X132 hx (t := (.array .double)) Bd.returns rfl (Or.inr (Or.inr (Or.inr (Or.inr ⟨rfl, rfl, rfl⟩)))) (hb hby d6_190) hr
  · show Q6_00 Z a0 a1 rb ml ln pe pu pc ra ca rc cc kr km kl ke ku kc kq rd fr fm fl fq x2 x3 x4 ea eb g0 g1 gf r0 r1 da db dc dd R0 R1 M A A' B C C' D h0 n0 _ T132.heap _
    rw [e132]
    exact ⟨b66, k66, (FP.ddiv (FP.dsub r0 (FP.dmul db (FP.ddiv r1 dc))) da), (FP.ddiv r1 dc), rfl, N132, KQ135_6, VL132, qx, qy⟩
theorem rm6_0 (l : Launch) (Z : State) (aa : Array Value) (hw : ∀ d ∈ tables_1, d.before aa Z = true) (ws : List Jvm.Cond) (a0 : Addr) (a1 : Addr) (wb : Bool) (rb : Addr) (ml : Addr) (ln : Addr) (pe : Addr) (pu : Addr) (pc : Addr) (ra : Addr) (ca : Addr) (rc : Addr) (cc : Addr) (kr : ClassId) (km : ClassId) (kl : ClassId) (ke : ClassId) (ku : ClassId) (kc : ClassId) (kq : ClassId) (rd : Int64) (fr : Int32 → Value) (fm : Int32 → Value) (fl : Int32 → Value) (fq : Int32 → Value) (x2 : Value) (x3 : Value) (x4 : Value) (ea : Int32) (eb : Int32) (g0 : Int32) (g1 : Int32) (gf : Int32) (r0 : UInt64) (r1 : UInt64) (da : UInt64) (db : UInt64) (dc : UInt64) (dd : UInt64) (R0 : Int) (R1 : Int) (M : Int) (A : Int) (A' : Int) (B : Int) (C : Int) (C' : Int) (D : Int) (h0 : Heap) (n0 : Nat) (Z0 : n0 ≤ h0.size) (FA : own_Fac Z h0 a0 rb ml ln pe pu pc kr km kl ke ku kc (3 : Int32) (2 : Int32) rd (own_l3 fr) (own_l3 fm) (own_l3 fl) [(.int ea), (.int eb), x2] [(.ref ra), (.ref rc), x3] [(.ref ca), (.ref cc), x4]) (V_q : Arv Z h0 a1 kq .double (3 : Int32) (own_l3 fq) (.double 0)) (hq0 : fq ea = (.double r0)) (hq1 : fq eb = (.double r1)) (hRa : own_R ea) (hRb : own_R eb) (hR0 : own_R g0) (hR1 : own_R g1) (hRf : own_R gf) (n01 : g0 ≠ g1) (n0f : g0 ≠ gf) (n1f : g1 ≠ gf) (hl0 : fl ea = (.int (0 : Int32))) (v0 : own_V 0 R0 r0) (v1 : own_V 0 R1 r1) (va : own_V 0 A da) (vb : own_V 0 B db) (vc : own_V 0 C dc) (vd : own_V 0 D dd) (aa' : A * A' = 8) (cc' : C * C' = 8) (ba : A'.natAbs ≤ 8) (bc : C'.natAbs ≤ 8) (bb : B.natAbs ≤ 8) (bm : M.natAbs ≤ 8) (b0 : R0.natAbs ≤ 2147483648) (b1 : R1.natAbs ≤ 2147483648) (RW : own_Rows Z h0 wb ra ca rc cc g0 g1 gf da db dc dd) (hl1 : fl eb = (.int (0 : Int32))) (hM : M = 0) :
    MetFree l (⟨"com/example/sondage/sondage/inference/Factorization", "solve", "([D)[D"⟩ : MethodName) (head1 (Jvm.Cond.code (⟨"com/example/sondage/sondage/inference/Factorization", "solve", "([D)[D"⟩ : MethodName) prog_18_method_7_code 10 (some (.array .double)) :: ws) ({ frames := 0, cells := 2, slots := 5, locals := 0 } : Room)) (fun a U => a = #[(.ref a0), (.ref a1)] ∧ Z.Warmed39 U.vm ∧ U.heap = h0) (fun _ _ _ _ _ => True) (fun _ U o U' => ∃ v L, o = .returned v ∧ Q6_01 Z a0 a1 rb ml ln pe pu pc ra ca rc cc kr km kl ke ku kc kq rd fr fm fl fq x2 x3 x4 ea eb g0 g1 gf r0 r1 da db dc dd R0 R1 M A A' B C C' D h0 n0 v U'.heap L ∧ FrameEnd U o U' L ({ frames := 0, cells := 2, slots := 5, locals := 0 } : Room).cells ({ frames := 0, cells := 2, slots := 5, locals := 0 } : Room).slots) := by
  cases wb with
  | true => exact rm6_01 l Z aa hw ws a0 a1 rb ml ln pe pu pc ra ca rc cc kr km kl ke ku kc kq rd fr fm fl fq x2 x3 x4 ea eb g0 g1 gf r0 r1 da db dc dd R0 R1 M A A' B C C' D h0 n0 Z0 FA V_q hq0 hq1 hRa hRb hR0 hR1 hRf n01 n0f n1f hl0 v0 v1 va vb vc vd aa' cc' ba bc bb bm b0 b1 RW hl1 hM
  | false => exact rm6_00 l Z aa hw ws a0 a1 rb ml ln pe pu pc ra ca rc cc kr km kl ke ku kc kq rd fr fm fl fq x2 x3 x4 ea eb g0 g1 gf r0 r1 da db dc dd R0 R1 M A A' B C C' D h0 n0 Z0 FA V_q hq0 hq1 hRa hRb hR0 hR1 hRf n01 n0f n1f hl0 v0 v1 va vb vc vd aa' cc' ba bc bb bm b0 b1 RW hl1 hM
theorem pn_com_example_sondage_sondage_inference_FactorizationSolvePinLaw : plainName "com/example/sondage/sondage/inference/FactorizationSolvePinLaw" = true := by first | (simp [plainName, overriddenIn]; done) | decide +kernel
theorem pd_PIIQV : parseMethodDescriptor "(II)V" = some ⟨[.int, .int], none⟩ := by decide +kernel
theorem pd_PI_I_DQI : parseMethodDescriptor "(I[I[D)I" = some ⟨[.int, (.array .int), (.array .double)], some .int⟩ := by decide +kernel
theorem pd_PIIDQV : parseMethodDescriptor "(IID)V" = some ⟨[.int, .int, .double], none⟩ := by decide +kernel
theorem pd_P_DQ_D : parseMethodDescriptor "([D)[D" = some ⟨[(.array .double)], some (.array .double)⟩ := by decide +kernel
theorem ef_rm0 (m : MethodId) (j0 : Int32) (j1 : Int32) (j2 : Int32) (cf : Int32) (sh : Int32) (ex : Int32) : entryFrame m #[(.int j0), (.int j1), (.int j2), (.int cf), (.int sh), (.int ex)] maxLocals = (mkF m 0 #[.val (.int j0), .val (.int j1), .val (.int j2), .val (.int cf), .val (.int sh), .val (.int ex), .unset, .unset, .unset, .unset, .unset, .unset, .unset, .unset, .unset, .unset, .unset, .unset, .unset, .unset, .unset, .unset, .unset, .unset, .unset, .unset, .unset, .unset, .unset, .unset, .unset, .unset, .unset, .unset, .unset, .unset, .unset, .unset, .unset, .unset, .unset, .unset, .unset, .unset, .unset, .unset, .unset, .unset, .unset, .unset, .unset, .unset, .unset, .unset, .unset, .unset, .unset] []) := by first | (simp [entryFrame, mkF, argsToLocals, Value.category, maxLocals]; done) | rfl
def Q0 (Z : State) (j0 : Int32) (j1 : Int32) (j2 : Int32) (cf : Int32) (sh : Int32) (ex : Int32) (h0 : Heap) (n0 : Nat) (v : Option Value) (h : Heap) (L : List Loc) : Prop := v = some (.int 1) ∧ Fr n0 L
set_option maxRecDepth 65536 in
set_option maxHeartbeats 40000000 in
theorem rm0 (l : Launch) (Z : State) (aa : Array Value) (hw : ∀ d ∈ tables_1, d.before aa Z = true) (ws : List Jvm.Cond) (j0 : Int32) (j1 : Int32) (j2 : Int32) (cf : Int32) (sh : Int32) (ex : Int32) (h0 : Heap) (n0 : Nat) (Z0 : n0 ≤ h0.size) :
    MetFree l x (head1 (Jvm.Cond.code x code maxLocals ret :: ws) room_1) (fun a U => a = #[(.int j0), (.int j1), (.int j2), (.int cf), (.int sh), (.int ex)] ∧ Z.Warmed39 U.vm ∧ U.heap = h0) (fun _ _ _ _ _ => True) (fun _ U o U' => ∃ v L, o = .returned v ∧ Q0 Z j0 j1 j2 cf sh ex h0 n0 v U'.heap L ∧ FrameEnd U o U' L room_1.cells room_1.slots) := by
  refine MetFree.of_bodySF (plainFor_of_name pn_com_example_sondage_sondage_inference_FactorizationSolvePinLaw) hisR ?_
  intro p e s m args below meth c s₁ Bd hml0 hP hK
  obtain ⟨rfl, hZ, hh⟩ := hP
  have hx := Bd.exec
  have hby := Bd.bytes
  have hml : c.maxLocals = 57 := hml0
  have hown : s.vm.findClass "com/example/sondage/sondage/inference/FactorizationSolvePinLaw" = some m.cls := findClass_of_methodNamed Bd.named
  have hnm := (name_of_methodNamed Bd.named Bd.method).1
  have X0 : Stand p l e room_1 s m #[(.int j0), (.int j1), (.int j2), (.int cf), (.int sh), (.int ex)] below meth c s₁ [] 0 0 := Stand.of_body Bd
  have e0 : s₁.heap = h0 := by rw [← hh, Bd.state]; rfl
  have N0 := Fr.nil n0
  obtain ⟨G0, hG0⟩ : ∃ G, G = s₁.setTop (entryFrame m #[(.int j0), (.int j1), (.int j2), (.int cf), (.int sh), (.int ex)] maxLocals) := ⟨_, rfl⟩
  have K0 : own_K p e below G0 s₁ (mkF m 0 #[.val (.int j0), .val (.int j1), .val (.int j2), .val (.int cf), .val (.int sh), .val (.int ex), .unset, .unset, .unset, .unset, .unset, .unset, .unset, .unset, .unset, .unset, .unset, .unset, .unset, .unset, .unset, .unset, .unset, .unset, .unset, .unset, .unset, .unset, .unset, .unset, .unset, .unset, .unset, .unset, .unset, .unset, .unset, .unset, .unset, .unset, .unset, .unset, .unset, .unset, .unset, .unset, .unset, .unset, .unset, .unset, .unset, .unset, .unset, .unset, .unset, .unset, .unset] []) := fun t k => by rw [hG0]; exact castTop (ef_rm0 m j0 j1 j2 cf sh ex) k
  let F0 : Nat → List Slot → List Value → JFrame := fun pc r st => mkF m pc (List.toArray (.val (.int j0) :: .val (.int j1) :: .val (.int j2) :: .val (.int cf) :: .val (.int sh) :: .val (.int ex) :: .unset :: .unset :: .unset :: .unset :: .unset :: .unset :: .unset :: .unset :: .unset :: .unset :: .unset :: .unset :: .unset :: .unset :: .unset :: .unset :: .unset :: .unset :: .unset :: .unset :: .unset :: .unset :: .unset :: .unset :: .unset :: .unset :: .unset :: .unset :: .unset :: .unset :: .unset :: .unset :: .unset :: .unset :: .unset :: .unset :: .unset :: .unset :: .unset :: .unset :: .unset :: .unset :: .unset :: .unset :: .unset :: .unset :: .unset :: .unset :: .unset :: .unset :: .unset :: r)) st
  have K1 : own_K p e below G0 s₁ (F0 2 [] [(.int (6 : Int32))]) := by
    intro t kt
    refine K0 t ?_
    refine XS.bipush X0.here hx rfl (hb hby at_0) ?_
    show own_S p e below s₁ (mkF m 2 _ [(.int (6 : Int32))]) _
    exact kt
  obtain ⟨T2, h2, k2, X2, e2, E2, A2, EA2, O2, st2⟩ := newRA X0 hx hZ hown (C := "[I") (ty := .int) (by decide) (hw _ (List.mem_of_getElem? (i := 0) rfl)) (hw _ (List.mem_of_getElem? (i := 1) rfl)) e0 (g := (F0 2 [] [(.int (6 : Int32))])) rfl (hb hby at_2) rfl (by decide) (cap := 6) (by decide) (by decide) (by decide) (by decide) (ad := "[[I") (by decide)
  obtain ⟨b2, g2⟩ : ∃ z, z = h0.size := ⟨_, rfl⟩
  rw [← g2] at A2 EA2 st2
  have V2 := Arv.new A2 (by decide)
  have gn2 : n0 ≤ b2 := Nat.le_trans Z0 (Nat.le_of_eq g2.symm)
  have Z2 : n0 ≤ h2.size := Nat.le_trans Z0 E2.1
  have K2 : own_K p e below G0 T2 (F0 5 [] [(.ref b2)]) := fun t kt => K1 t (st2 _ kt)
  have VL2 : Arv Z h2 b2 k2 (.array .int) (6 : Int32) [.null, .null, .null, .null, .null, .null] .null := V2.pad (pad_rep [] .null 6)
  have K3 : own_K p e below G0 T2 (F0 8 [] [(.int (3 : Int32)), (.int (0 : Int32)), (.ref b2), (.ref b2)]) := by
    intro t kt
    refine K2 t ?_
    refine XS.dup X2.here hx rfl (hb hby at_5) rfl rfl ?_
    show own_S p e below T2 (mkF m 6 _ [(.ref b2), (.ref b2)]) _
    refine XS.iconst X2.here hx rfl (hb hby at_6) ?_
    show own_S p e below T2 (mkF m 7 _ [(.int (0 : Int32)), (.ref b2), (.ref b2)]) _
    refine XS.iconst X2.here hx rfl (hb hby at_7) ?_
    show own_S p e below T2 (mkF m 8 _ [(.int (3 : Int32)), (.int (0 : Int32)), (.ref b2), (.ref b2)]) _
    exact kt
  obtain ⟨T4, h4, k4, X4, e4, E4, A4, EA4, st4⟩ := newPE X2 hx hZ (hw _ (List.mem_of_getElem? (i := 2) rfl)) e2 (g := (F0 8 [] [(.int (3 : Int32)), (.int (0 : Int32)), (.ref b2), (.ref b2)])) rfl (hb hby at_8) rfl (by decide) (cap := 3) (by decide) (by decide) (by decide) (by decide) (ad := "[I") (by decide)
  obtain ⟨b4, g4⟩ : ∃ z, z = h2.size := ⟨_, rfl⟩
  rw [← g4] at A4 EA4 st4
  have V4 := Arv.new A4 (by decide)
  have gn4 : n0 ≤ b4 := Nat.le_trans Z2 (Nat.le_of_eq g4.symm)
  have Z4 : n0 ≤ h4.size := Nat.le_trans Z2 E4.1
  have K4 : own_K p e below G0 T4 (F0 10 [] [(.ref b4), (.int (0 : Int32)), (.ref b2), (.ref b2)]) := fun t kt => K3 t (st4 _ kt)
  have ne_b2_b4 : b2 ≠ b4 := Nat.ne_of_lt (Nat.lt_of_lt_of_le (VL2).lt (Nat.le_of_eq g4.symm))
  have VL4 : Arv Z h4 b4 k4 .int (3 : Int32) [(.int (0 : Int32)), (.int (0 : Int32)), (.int (0 : Int32))] (.int (0 : Int32)) := V4.pad (pad_rep [] (.int (0 : Int32)) 3)
  have K5 : own_K p e below G0 T4 (F0 13 [] [(.int (0 : Int32)), (.int (0 : Int32)), (.ref b4), (.ref b4), (.int (0 : Int32)), (.ref b2), (.ref b2)]) := by
    intro t kt
    refine K4 t ?_
    refine XS.dup X4.here hx rfl (hb hby at_10) rfl rfl ?_
    show own_S p e below T4 (mkF m 11 _ [(.ref b4), (.ref b4), (.int (0 : Int32)), (.ref b2), (.ref b2)]) _
    refine XS.iconst X4.here hx rfl (hb hby at_11) ?_
    show own_S p e below T4 (mkF m 12 _ [(.int (0 : Int32)), (.ref b4), (.ref b4), (.int (0 : Int32)), (.ref b2), (.ref b2)]) _
    refine XS.iconst X4.here hx rfl (hb hby at_12) ?_
    show own_S p e below T4 (mkF m 13 _ [(.int (0 : Int32)), (.int (0 : Int32)), (.ref b4), (.ref b4), (.int (0 : Int32)), (.ref b2), (.ref b2)]) _
    exact kt
  obtain ⟨cl6, Ar6, qq6, S6, M6, H6, GG6⟩ := id VL4
  have hin6 : ¬ ((0 : Int32) < 0 ∨ cl6.slots.size ≤ ((0 : Int32)).toNatClampNeg) := inb_of S6 ⟨by decide, by decide⟩
  obtain ⟨T7, h7, X7, e7, W7, st7⟩ := stI X4 hx hZ e4 Ar6 (j := (0 : Int32)) hin6 (g := (F0 13 [] [(.int (0 : Int32)), (.int (0 : Int32)), (.ref b4), (.ref b4), (.int (0 : Int32)), (.ref b2), (.ref b2)])) rfl rfl (hb hby at_13)
  have K7 : own_K p e below G0 T7 (F0 14 [] [(.ref b4), (.int (0 : Int32)), (.ref b2), (.ref b2)]) := fun t kt => K5 t (st7 _ kt)
  have Z7 : n0 ≤ h7.size := Nat.le_trans Z4 (Keep.of_wr W7).1
  have VL7 : Arv Z h7 b4 k4 .int (3 : Int32) [(.int (0 : Int32)), (.int (0 : Int32)), (.int (0 : Int32))] (.int (0 : Int32)) := Arv.set Ar6 qq6 S6 M6 H6 GG6 rfl W7 0 rfl (Nat.le_of_ble_eq_true rfl)
  have N7 := Fr.snoc X7 N0 gn4
  have K8 : own_K p e below G0 T7 (F0 17 [] [(.int (1 : Int32)), (.int (1 : Int32)), (.ref b4), (.ref b4), (.int (0 : Int32)), (.ref b2), (.ref b2)]) := by
    intro t kt
    refine K7 t ?_
    refine XS.dup X7.here hx rfl (hb hby at_14) rfl rfl ?_
    show own_S p e below T7 (mkF m 15 _ [(.ref b4), (.ref b4), (.int (0 : Int32)), (.ref b2), (.ref b2)]) _
    refine XS.iconst X7.here hx rfl (hb hby at_15) ?_
    show own_S p e below T7 (mkF m 16 _ [(.int (1 : Int32)), (.ref b4), (.ref b4), (.int (0 : Int32)), (.ref b2), (.ref b2)]) _
    refine XS.iconst X7.here hx rfl (hb hby at_16) ?_
    show own_S p e below T7 (mkF m 17 _ [(.int (1 : Int32)), (.int (1 : Int32)), (.ref b4), (.ref b4), (.int (0 : Int32)), (.ref b2), (.ref b2)]) _
    exact kt
  obtain ⟨cl9, Ar9, qq9, S9, M9, H9, GG9⟩ := id VL7
  have hin9 : ¬ ((1 : Int32) < 0 ∨ cl9.slots.size ≤ ((1 : Int32)).toNatClampNeg) := inb_of S9 ⟨by decide, by decide⟩
  obtain ⟨T10, h10, X10, e10, W10, st10⟩ := stI X7 hx hZ e7 Ar9 (j := (1 : Int32)) hin9 (g := (F0 17 [] [(.int (1 : Int32)), (.int (1 : Int32)), (.ref b4), (.ref b4), (.int (0 : Int32)), (.ref b2), (.ref b2)])) rfl rfl (hb hby at_17)
  have K10 : own_K p e below G0 T10 (F0 18 [] [(.ref b4), (.int (0 : Int32)), (.ref b2), (.ref b2)]) := fun t kt => K8 t (st10 _ kt)
  have Z10 : n0 ≤ h10.size := Nat.le_trans Z7 (Keep.of_wr W10).1
  have VL10 : Arv Z h10 b4 k4 .int (3 : Int32) [(.int (0 : Int32)), (.int (1 : Int32)), (.int (0 : Int32))] (.int (0 : Int32)) := Arv.set Ar9 qq9 S9 M9 H9 GG9 rfl W10 1 rfl (Nat.le_of_ble_eq_true rfl)
  have N10 := Fr.snoc X10 N7 gn4
  have K11 : own_K p e below G0 T10 (F0 21 [] [(.int (2 : Int32)), (.int (2 : Int32)), (.ref b4), (.ref b4), (.int (0 : Int32)), (.ref b2), (.ref b2)]) := by
    intro t kt
    refine K10 t ?_
    refine XS.dup X10.here hx rfl (hb hby at_18) rfl rfl ?_
    show own_S p e below T10 (mkF m 19 _ [(.ref b4), (.ref b4), (.int (0 : Int32)), (.ref b2), (.ref b2)]) _
    refine XS.iconst X10.here hx rfl (hb hby at_19) ?_
    show own_S p e below T10 (mkF m 20 _ [(.int (2 : Int32)), (.ref b4), (.ref b4), (.int (0 : Int32)), (.ref b2), (.ref b2)]) _
    refine XS.iconst X10.here hx rfl (hb hby at_20) ?_
    show own_S p e below T10 (mkF m 21 _ [(.int (2 : Int32)), (.int (2 : Int32)), (.ref b4), (.ref b4), (.int (0 : Int32)), (.ref b2), (.ref b2)]) _
    exact kt
  obtain ⟨cl12, Ar12, qq12, S12, M12, H12, GG12⟩ := id VL10
  have hin12 : ¬ ((2 : Int32) < 0 ∨ cl12.slots.size ≤ ((2 : Int32)).toNatClampNeg) := inb_of S12 ⟨by decide, by decide⟩
  obtain ⟨T13, h13, X13, e13, W13, st13⟩ := stI X10 hx hZ e10 Ar12 (j := (2 : Int32)) hin12 (g := (F0 21 [] [(.int (2 : Int32)), (.int (2 : Int32)), (.ref b4), (.ref b4), (.int (0 : Int32)), (.ref b2), (.ref b2)])) rfl rfl (hb hby at_21)
  have K13 : own_K p e below G0 T13 (F0 22 [] [(.ref b4), (.int (0 : Int32)), (.ref b2), (.ref b2)]) := fun t kt => K11 t (st13 _ kt)
  have Z13 : n0 ≤ h13.size := Nat.le_trans Z10 (Keep.of_wr W13).1
  have VL13 : Arv Z h13 b4 k4 .int (3 : Int32) [(.int (0 : Int32)), (.int (1 : Int32)), (.int (2 : Int32))] (.int (0 : Int32)) := Arv.set Ar12 qq12 S12 M12 H12 GG12 rfl W13 2 rfl (Nat.le_of_ble_eq_true rfl)
  have N13 := Fr.snoc X13 N10 gn4
  have f14 := ((((VL2.ext E4).other W7 ne_b2_b4).other W10 ne_b2_b4).other W13 ne_b2_b4)
  obtain ⟨cl15, Ar15, qq15, S15, M15, H15, GG15⟩ := id f14
  have hin15 : ¬ ((0 : Int32) < 0 ∨ cl15.slots.size ≤ ((0 : Int32)).toNatClampNeg) := inb_of S15 ⟨by decide, by decide⟩
  have f16 := (((EA4.wr W7).wr W10).wr W13)
  obtain ⟨T17, h17, X17, e17, W17, st17⟩ := stR X13 hx hZ e13 Ar15 (j := (0 : Int32)) hin15 rfl (Sto.ofVA Ar15 qq15 O2 (Ins.self f16)) (g := (F0 22 [] [(.ref b4), (.int (0 : Int32)), (.ref b2), (.ref b2)])) rfl rfl (hb hby at_22)
  have K17 : own_K p e below G0 T17 (F0 23 [] [(.ref b2)]) := fun t kt => K13 t (st17 _ kt)
  have Z17 : n0 ≤ h17.size := Nat.le_trans Z13 (Keep.of_wr W17).1
  have VL17 : Arv Z h17 b2 k2 (.array .int) (6 : Int32) [(.ref b4), .null, .null, .null, .null, .null] .null := Arv.set Ar15 qq15 S15 M15 H15 GG15 rfl W17 0 rfl (Nat.le_of_ble_eq_true rfl)
  have N17 := Fr.snoc X17 N13 gn2
  have K18 : own_K p e below G0 T17 (F0 26 [] [(.int (3 : Int32)), (.int (1 : Int32)), (.ref b2), (.ref b2)]) := by
    intro t kt
    refine K17 t ?_
    refine XS.dup X17.here hx rfl (hb hby at_23) rfl rfl ?_
    show own_S p e below T17 (mkF m 24 _ [(.ref b2), (.ref b2)]) _
    refine XS.iconst X17.here hx rfl (hb hby at_24) ?_
    show own_S p e below T17 (mkF m 25 _ [(.int (1 : Int32)), (.ref b2), (.ref b2)]) _
    refine XS.iconst X17.here hx rfl (hb hby at_25) ?_
    show own_S p e below T17 (mkF m 26 _ [(.int (3 : Int32)), (.int (1 : Int32)), (.ref b2), (.ref b2)]) _
    exact kt
  have f19 := (VL13.other W17 (Ne.symm ne_b2_b4))
  obtain ⟨T20, h20, k20, X20, e20, E20, A20, EA20, st20⟩ := newPE X17 hx hZ (hw _ (List.mem_of_getElem? (i := 2) rfl)) e17 (g := (F0 26 [] [(.int (3 : Int32)), (.int (1 : Int32)), (.ref b2), (.ref b2)])) rfl (hb hby at_26) rfl (by decide) (cap := 3) (by decide) (by decide) (by decide) (by decide) (ad := "[I") (by decide)
  obtain ⟨b20, g20⟩ : ∃ z, z = h17.size := ⟨_, rfl⟩
  rw [← g20] at A20 EA20 st20
  have V20 := Arv.new A20 (by decide)
  have gn20 : n0 ≤ b20 := Nat.le_trans Z17 (Nat.le_of_eq g20.symm)
  have Z20 : n0 ≤ h20.size := Nat.le_trans Z17 E20.1
  have K20 : own_K p e below G0 T20 (F0 28 [] [(.ref b20), (.int (1 : Int32)), (.ref b2), (.ref b2)]) := fun t kt => K18 t (st20 _ kt)
  have ne_b2_b20 : b2 ≠ b20 := Nat.ne_of_lt (Nat.lt_of_lt_of_le (VL17).lt (Nat.le_of_eq g20.symm))
  have ne_b4_b20 : b4 ≠ b20 := Nat.ne_of_lt (Nat.lt_of_lt_of_le (f19).lt (Nat.le_of_eq g20.symm))
  have VL20 : Arv Z h20 b20 k20 .int (3 : Int32) [(.int (0 : Int32)), (.int (0 : Int32)), (.int (0 : Int32))] (.int (0 : Int32)) := V20.pad (pad_rep [] (.int (0 : Int32)) 3)
  have K21 : own_K p e below G0 T20 (F0 31 [] [(.int (0 : Int32)), (.int (0 : Int32)), (.ref b20), (.ref b20), (.int (1 : Int32)), (.ref b2), (.ref b2)]) := by
    intro t kt
    refine K20 t ?_
    refine XS.dup X20.here hx rfl (hb hby at_28) rfl rfl ?_
    show own_S p e below T20 (mkF m 29 _ [(.ref b20), (.ref b20), (.int (1 : Int32)), (.ref b2), (.ref b2)]) _
    refine XS.iconst X20.here hx rfl (hb hby at_29) ?_
    show own_S p e below T20 (mkF m 30 _ [(.int (0 : Int32)), (.ref b20), (.ref b20), (.int (1 : Int32)), (.ref b2), (.ref b2)]) _
    refine XS.iconst X20.here hx rfl (hb hby at_30) ?_
    show own_S p e below T20 (mkF m 31 _ [(.int (0 : Int32)), (.int (0 : Int32)), (.ref b20), (.ref b20), (.int (1 : Int32)), (.ref b2), (.ref b2)]) _
    exact kt
  obtain ⟨cl22, Ar22, qq22, S22, M22, H22, GG22⟩ := id VL20
  have hin22 : ¬ ((0 : Int32) < 0 ∨ cl22.slots.size ≤ ((0 : Int32)).toNatClampNeg) := inb_of S22 ⟨by decide, by decide⟩
  obtain ⟨T23, h23, X23, e23, W23, st23⟩ := stI X20 hx hZ e20 Ar22 (j := (0 : Int32)) hin22 (g := (F0 31 [] [(.int (0 : Int32)), (.int (0 : Int32)), (.ref b20), (.ref b20), (.int (1 : Int32)), (.ref b2), (.ref b2)])) rfl rfl (hb hby at_31)
  have K23 : own_K p e below G0 T23 (F0 32 [] [(.ref b20), (.int (1 : Int32)), (.ref b2), (.ref b2)]) := fun t kt => K21 t (st23 _ kt)
  have Z23 : n0 ≤ h23.size := Nat.le_trans Z20 (Keep.of_wr W23).1
  have VL23 : Arv Z h23 b20 k20 .int (3 : Int32) [(.int (0 : Int32)), (.int (0 : Int32)), (.int (0 : Int32))] (.int (0 : Int32)) := Arv.set Ar22 qq22 S22 M22 H22 GG22 rfl W23 0 rfl (Nat.le_of_ble_eq_true rfl)
  have N23 := Fr.snoc X23 N17 gn20
  have K24 : own_K p e below G0 T23 (F0 35 [] [(.int (2 : Int32)), (.int (1 : Int32)), (.ref b20), (.ref b20), (.int (1 : Int32)), (.ref b2), (.ref b2)]) := by
    intro t kt
    refine K23 t ?_
    refine XS.dup X23.here hx rfl (hb hby at_32) rfl rfl ?_
    show own_S p e below T23 (mkF m 33 _ [(.ref b20), (.ref b20), (.int (1 : Int32)), (.ref b2), (.ref b2)]) _
    refine XS.iconst X23.here hx rfl (hb hby at_33) ?_
    show own_S p e below T23 (mkF m 34 _ [(.int (1 : Int32)), (.ref b20), (.ref b20), (.int (1 : Int32)), (.ref b2), (.ref b2)]) _
    refine XS.iconst X23.here hx rfl (hb hby at_34) ?_
    show own_S p e below T23 (mkF m 35 _ [(.int (2 : Int32)), (.int (1 : Int32)), (.ref b20), (.ref b20), (.int (1 : Int32)), (.ref b2), (.ref b2)]) _
    exact kt
  obtain ⟨cl25, Ar25, qq25, S25, M25, H25, GG25⟩ := id VL23
  have hin25 : ¬ ((1 : Int32) < 0 ∨ cl25.slots.size ≤ ((1 : Int32)).toNatClampNeg) := inb_of S25 ⟨by decide, by decide⟩
  obtain ⟨T26, h26, X26, e26, W26, st26⟩ := stI X23 hx hZ e23 Ar25 (j := (1 : Int32)) hin25 (g := (F0 35 [] [(.int (2 : Int32)), (.int (1 : Int32)), (.ref b20), (.ref b20), (.int (1 : Int32)), (.ref b2), (.ref b2)])) rfl rfl (hb hby at_35)
  have K26 : own_K p e below G0 T26 (F0 36 [] [(.ref b20), (.int (1 : Int32)), (.ref b2), (.ref b2)]) := fun t kt => K24 t (st26 _ kt)
  have Z26 : n0 ≤ h26.size := Nat.le_trans Z23 (Keep.of_wr W26).1
  have VL26 : Arv Z h26 b20 k20 .int (3 : Int32) [(.int (0 : Int32)), (.int (2 : Int32)), (.int (0 : Int32))] (.int (0 : Int32)) := Arv.set Ar25 qq25 S25 M25 H25 GG25 rfl W26 1 rfl (Nat.le_of_ble_eq_true rfl)
  have N26 := Fr.snoc X26 N23 gn20
  have K27 : own_K p e below G0 T26 (F0 39 [] [(.int (1 : Int32)), (.int (2 : Int32)), (.ref b20), (.ref b20), (.int (1 : Int32)), (.ref b2), (.ref b2)]) := by
    intro t kt
    refine K26 t ?_
    refine XS.dup X26.here hx rfl (hb hby at_36) rfl rfl ?_
    show own_S p e below T26 (mkF m 37 _ [(.ref b20), (.ref b20), (.int (1 : Int32)), (.ref b2), (.ref b2)]) _
    refine XS.iconst X26.here hx rfl (hb hby at_37) ?_
    show own_S p e below T26 (mkF m 38 _ [(.int (2 : Int32)), (.ref b20), (.ref b20), (.int (1 : Int32)), (.ref b2), (.ref b2)]) _
    refine XS.iconst X26.here hx rfl (hb hby at_38) ?_
    show own_S p e below T26 (mkF m 39 _ [(.int (1 : Int32)), (.int (2 : Int32)), (.ref b20), (.ref b20), (.int (1 : Int32)), (.ref b2), (.ref b2)]) _
    exact kt
  obtain ⟨cl28, Ar28, qq28, S28, M28, H28, GG28⟩ := id VL26
  have hin28 : ¬ ((2 : Int32) < 0 ∨ cl28.slots.size ≤ ((2 : Int32)).toNatClampNeg) := inb_of S28 ⟨by decide, by decide⟩
  obtain ⟨T29, h29, X29, e29, W29, st29⟩ := stI X26 hx hZ e26 Ar28 (j := (2 : Int32)) hin28 (g := (F0 39 [] [(.int (1 : Int32)), (.int (2 : Int32)), (.ref b20), (.ref b20), (.int (1 : Int32)), (.ref b2), (.ref b2)])) rfl rfl (hb hby at_39)
  have K29 : own_K p e below G0 T29 (F0 40 [] [(.ref b20), (.int (1 : Int32)), (.ref b2), (.ref b2)]) := fun t kt => K27 t (st29 _ kt)
  have Z29 : n0 ≤ h29.size := Nat.le_trans Z26 (Keep.of_wr W29).1
  have VL29 : Arv Z h29 b20 k20 .int (3 : Int32) [(.int (0 : Int32)), (.int (2 : Int32)), (.int (1 : Int32))] (.int (0 : Int32)) := Arv.set Ar28 qq28 S28 M28 H28 GG28 rfl W29 2 rfl (Nat.le_of_ble_eq_true rfl)
  have N29 := Fr.snoc X29 N26 gn20
  have f30 := ((((VL17.ext E20).other W23 ne_b2_b20).other W26 ne_b2_b20).other W29 ne_b2_b20)
  obtain ⟨cl31, Ar31, qq31, S31, M31, H31, GG31⟩ := id f30
  have hin31 : ¬ ((1 : Int32) < 0 ∨ cl31.slots.size ≤ ((1 : Int32)).toNatClampNeg) := inb_of S31 ⟨by decide, by decide⟩
  have f32 := (((EA20.wr W23).wr W26).wr W29)
  obtain ⟨T33, h33, X33, e33, W33, st33⟩ := stR X29 hx hZ e29 Ar31 (j := (1 : Int32)) hin31 rfl (Sto.ofVA Ar31 qq31 O2 (Ins.self f32)) (g := (F0 40 [] [(.ref b20), (.int (1 : Int32)), (.ref b2), (.ref b2)])) rfl rfl (hb hby at_40)
  have K33 : own_K p e below G0 T33 (F0 41 [] [(.ref b2)]) := fun t kt => K29 t (st33 _ kt)
  have Z33 : n0 ≤ h33.size := Nat.le_trans Z29 (Keep.of_wr W33).1
  have VL33 : Arv Z h33 b2 k2 (.array .int) (6 : Int32) [(.ref b4), (.ref b20), .null, .null, .null, .null] .null := Arv.set Ar31 qq31 S31 M31 H31 GG31 rfl W33 1 rfl (Nat.le_of_ble_eq_true rfl)
  have N33 := Fr.snoc X33 N29 gn2
  have K34 : own_K p e below G0 T33 (F0 44 [] [(.int (3 : Int32)), (.int (2 : Int32)), (.ref b2), (.ref b2)]) := by
    intro t kt
    refine K33 t ?_
    refine XS.dup X33.here hx rfl (hb hby at_41) rfl rfl ?_
    show own_S p e below T33 (mkF m 42 _ [(.ref b2), (.ref b2)]) _
    refine XS.iconst X33.here hx rfl (hb hby at_42) ?_
    show own_S p e below T33 (mkF m 43 _ [(.int (2 : Int32)), (.ref b2), (.ref b2)]) _
    refine XS.iconst X33.here hx rfl (hb hby at_43) ?_
    show own_S p e below T33 (mkF m 44 _ [(.int (3 : Int32)), (.int (2 : Int32)), (.ref b2), (.ref b2)]) _
    exact kt
  have f35 := (((((f19.ext E20).other W23 ne_b4_b20).other W26 ne_b4_b20).other W29 ne_b4_b20).other W33 (Ne.symm ne_b2_b4))
  have f36 := (VL29.other W33 (Ne.symm ne_b2_b20))
  obtain ⟨T37, h37, k37, X37, e37, E37, A37, EA37, st37⟩ := newPE X33 hx hZ (hw _ (List.mem_of_getElem? (i := 2) rfl)) e33 (g := (F0 44 [] [(.int (3 : Int32)), (.int (2 : Int32)), (.ref b2), (.ref b2)])) rfl (hb hby at_44) rfl (by decide) (cap := 3) (by decide) (by decide) (by decide) (by decide) (ad := "[I") (by decide)
  obtain ⟨b37, g37⟩ : ∃ z, z = h33.size := ⟨_, rfl⟩
  rw [← g37] at A37 EA37 st37
  have V37 := Arv.new A37 (by decide)
  have gn37 : n0 ≤ b37 := Nat.le_trans Z33 (Nat.le_of_eq g37.symm)
  have Z37 : n0 ≤ h37.size := Nat.le_trans Z33 E37.1
  have K37 : own_K p e below G0 T37 (F0 46 [] [(.ref b37), (.int (2 : Int32)), (.ref b2), (.ref b2)]) := fun t kt => K34 t (st37 _ kt)
  have ne_b2_b37 : b2 ≠ b37 := Nat.ne_of_lt (Nat.lt_of_lt_of_le (VL33).lt (Nat.le_of_eq g37.symm))
  have ne_b4_b37 : b4 ≠ b37 := Nat.ne_of_lt (Nat.lt_of_lt_of_le (f35).lt (Nat.le_of_eq g37.symm))
  have ne_b20_b37 : b20 ≠ b37 := Nat.ne_of_lt (Nat.lt_of_lt_of_le (f36).lt (Nat.le_of_eq g37.symm))
  have VL37 : Arv Z h37 b37 k37 .int (3 : Int32) [(.int (0 : Int32)), (.int (0 : Int32)), (.int (0 : Int32))] (.int (0 : Int32)) := V37.pad (pad_rep [] (.int (0 : Int32)) 3)
  have K38 : own_K p e below G0 T37 (F0 49 [] [(.int (1 : Int32)), (.int (0 : Int32)), (.ref b37), (.ref b37), (.int (2 : Int32)), (.ref b2), (.ref b2)]) := by
    intro t kt
    refine K37 t ?_
    refine XS.dup X37.here hx rfl (hb hby at_46) rfl rfl ?_
    show own_S p e below T37 (mkF m 47 _ [(.ref b37), (.ref b37), (.int (2 : Int32)), (.ref b2), (.ref b2)]) _
    refine XS.iconst X37.here hx rfl (hb hby at_47) ?_
    show own_S p e below T37 (mkF m 48 _ [(.int (0 : Int32)), (.ref b37), (.ref b37), (.int (2 : Int32)), (.ref b2), (.ref b2)]) _
    refine XS.iconst X37.here hx rfl (hb hby at_48) ?_
    show own_S p e below T37 (mkF m 49 _ [(.int (1 : Int32)), (.int (0 : Int32)), (.ref b37), (.ref b37), (.int (2 : Int32)), (.ref b2), (.ref b2)]) _
    exact kt
  obtain ⟨cl39, Ar39, qq39, S39, M39, H39, GG39⟩ := id VL37
  have hin39 : ¬ ((0 : Int32) < 0 ∨ cl39.slots.size ≤ ((0 : Int32)).toNatClampNeg) := inb_of S39 ⟨by decide, by decide⟩
  obtain ⟨T40, h40, X40, e40, W40, st40⟩ := stI X37 hx hZ e37 Ar39 (j := (0 : Int32)) hin39 (g := (F0 49 [] [(.int (1 : Int32)), (.int (0 : Int32)), (.ref b37), (.ref b37), (.int (2 : Int32)), (.ref b2), (.ref b2)])) rfl rfl (hb hby at_49)
  have K40 : own_K p e below G0 T40 (F0 50 [] [(.ref b37), (.int (2 : Int32)), (.ref b2), (.ref b2)]) := fun t kt => K38 t (st40 _ kt)
  have Z40 : n0 ≤ h40.size := Nat.le_trans Z37 (Keep.of_wr W40).1
  have VL40 : Arv Z h40 b37 k37 .int (3 : Int32) [(.int (1 : Int32)), (.int (0 : Int32)), (.int (0 : Int32))] (.int (0 : Int32)) := Arv.set Ar39 qq39 S39 M39 H39 GG39 rfl W40 0 rfl (Nat.le_of_ble_eq_true rfl)
  have N40 := Fr.snoc X40 N33 gn37
  have K41 : own_K p e below G0 T40 (F0 53 [] [(.int (0 : Int32)), (.int (1 : Int32)), (.ref b37), (.ref b37), (.int (2 : Int32)), (.ref b2), (.ref b2)]) := by
    intro t kt
    refine K40 t ?_
    refine XS.dup X40.here hx rfl (hb hby at_50) rfl rfl ?_
    show own_S p e below T40 (mkF m 51 _ [(.ref b37), (.ref b37), (.int (2 : Int32)), (.ref b2), (.ref b2)]) _
    refine XS.iconst X40.here hx rfl (hb hby at_51) ?_
    show own_S p e below T40 (mkF m 52 _ [(.int (1 : Int32)), (.ref b37), (.ref b37), (.int (2 : Int32)), (.ref b2), (.ref b2)]) _
    refine XS.iconst X40.here hx rfl (hb hby at_52) ?_
    show own_S p e below T40 (mkF m 53 _ [(.int (0 : Int32)), (.int (1 : Int32)), (.ref b37), (.ref b37), (.int (2 : Int32)), (.ref b2), (.ref b2)]) _
    exact kt
  obtain ⟨cl42, Ar42, qq42, S42, M42, H42, GG42⟩ := id VL40
  have hin42 : ¬ ((1 : Int32) < 0 ∨ cl42.slots.size ≤ ((1 : Int32)).toNatClampNeg) := inb_of S42 ⟨by decide, by decide⟩
  obtain ⟨T43, h43, X43, e43, W43, st43⟩ := stI X40 hx hZ e40 Ar42 (j := (1 : Int32)) hin42 (g := (F0 53 [] [(.int (0 : Int32)), (.int (1 : Int32)), (.ref b37), (.ref b37), (.int (2 : Int32)), (.ref b2), (.ref b2)])) rfl rfl (hb hby at_53)
  have K43 : own_K p e below G0 T43 (F0 54 [] [(.ref b37), (.int (2 : Int32)), (.ref b2), (.ref b2)]) := fun t kt => K41 t (st43 _ kt)
  have Z43 : n0 ≤ h43.size := Nat.le_trans Z40 (Keep.of_wr W43).1
  have VL43 : Arv Z h43 b37 k37 .int (3 : Int32) [(.int (1 : Int32)), (.int (0 : Int32)), (.int (0 : Int32))] (.int (0 : Int32)) := Arv.set Ar42 qq42 S42 M42 H42 GG42 rfl W43 1 rfl (Nat.le_of_ble_eq_true rfl)
  have N43 := Fr.snoc X43 N40 gn37
  have K44 : own_K p e below G0 T43 (F0 57 [] [(.int (2 : Int32)), (.int (2 : Int32)), (.ref b37), (.ref b37), (.int (2 : Int32)), (.ref b2), (.ref b2)]) := by
    intro t kt
    refine K43 t ?_
    refine XS.dup X43.here hx rfl (hb hby at_54) rfl rfl ?_
    show own_S p e below T43 (mkF m 55 _ [(.ref b37), (.ref b37), (.int (2 : Int32)), (.ref b2), (.ref b2)]) _
    refine XS.iconst X43.here hx rfl (hb hby at_55) ?_
    show own_S p e below T43 (mkF m 56 _ [(.int (2 : Int32)), (.ref b37), (.ref b37), (.int (2 : Int32)), (.ref b2), (.ref b2)]) _
    refine XS.iconst X43.here hx rfl (hb hby at_56) ?_
    show own_S p e below T43 (mkF m 57 _ [(.int (2 : Int32)), (.int (2 : Int32)), (.ref b37), (.ref b37), (.int (2 : Int32)), (.ref b2), (.ref b2)]) _
    exact kt
  obtain ⟨cl45, Ar45, qq45, S45, M45, H45, GG45⟩ := id VL43
  have hin45 : ¬ ((2 : Int32) < 0 ∨ cl45.slots.size ≤ ((2 : Int32)).toNatClampNeg) := inb_of S45 ⟨by decide, by decide⟩
  obtain ⟨T46, h46, X46, e46, W46, st46⟩ := stI X43 hx hZ e43 Ar45 (j := (2 : Int32)) hin45 (g := (F0 57 [] [(.int (2 : Int32)), (.int (2 : Int32)), (.ref b37), (.ref b37), (.int (2 : Int32)), (.ref b2), (.ref b2)])) rfl rfl (hb hby at_57)
  have K46 : own_K p e below G0 T46 (F0 58 [] [(.ref b37), (.int (2 : Int32)), (.ref b2), (.ref b2)]) := fun t kt => K44 t (st46 _ kt)
  have Z46 : n0 ≤ h46.size := Nat.le_trans Z43 (Keep.of_wr W46).1
  have VL46 : Arv Z h46 b37 k37 .int (3 : Int32) [(.int (1 : Int32)), (.int (0 : Int32)), (.int (2 : Int32))] (.int (0 : Int32)) := Arv.set Ar45 qq45 S45 M45 H45 GG45 rfl W46 2 rfl (Nat.le_of_ble_eq_true rfl)
  have N46 := Fr.snoc X46 N43 gn37
  have f47 := ((((VL33.ext E37).other W40 ne_b2_b37).other W43 ne_b2_b37).other W46 ne_b2_b37)
  obtain ⟨cl48, Ar48, qq48, S48, M48, H48, GG48⟩ := id f47
  have hin48 : ¬ ((2 : Int32) < 0 ∨ cl48.slots.size ≤ ((2 : Int32)).toNatClampNeg) := inb_of S48 ⟨by decide, by decide⟩
  have f49 := (((EA37.wr W40).wr W43).wr W46)
  obtain ⟨T50, h50, X50, e50, W50, st50⟩ := stR X46 hx hZ e46 Ar48 (j := (2 : Int32)) hin48 rfl (Sto.ofVA Ar48 qq48 O2 (Ins.self f49)) (g := (F0 58 [] [(.ref b37), (.int (2 : Int32)), (.ref b2), (.ref b2)])) rfl rfl (hb hby at_58)
  have K50 : own_K p e below G0 T50 (F0 59 [] [(.ref b2)]) := fun t kt => K46 t (st50 _ kt)
  have Z50 : n0 ≤ h50.size := Nat.le_trans Z46 (Keep.of_wr W50).1
  have VL50 : Arv Z h50 b2 k2 (.array .int) (6 : Int32) [(.ref b4), (.ref b20), (.ref b37), .null, .null, .null] .null := Arv.set Ar48 qq48 S48 M48 H48 GG48 rfl W50 2 rfl (Nat.le_of_ble_eq_true rfl)
  have N50 := Fr.snoc X50 N46 gn2
  have K51 : own_K p e below G0 T50 (F0 62 [] [(.int (3 : Int32)), (.int (3 : Int32)), (.ref b2), (.ref b2)]) := by
    intro t kt
    refine K50 t ?_
    refine XS.dup X50.here hx rfl (hb hby at_59) rfl rfl ?_
    show own_S p e below T50 (mkF m 60 _ [(.ref b2), (.ref b2)]) _
    refine XS.iconst X50.here hx rfl (hb hby at_60) ?_
    show own_S p e below T50 (mkF m 61 _ [(.int (3 : Int32)), (.ref b2), (.ref b2)]) _
    refine XS.iconst X50.here hx rfl (hb hby at_61) ?_
    show own_S p e below T50 (mkF m 62 _ [(.int (3 : Int32)), (.int (3 : Int32)), (.ref b2), (.ref b2)]) _
    exact kt
  have f52 := (((((f35.ext E37).other W40 ne_b4_b37).other W43 ne_b4_b37).other W46 ne_b4_b37).other W50 (Ne.symm ne_b2_b4))
  have f53 := (((((f36.ext E37).other W40 ne_b20_b37).other W43 ne_b20_b37).other W46 ne_b20_b37).other W50 (Ne.symm ne_b2_b20))
  have f54 := (VL46.other W50 (Ne.symm ne_b2_b37))
  obtain ⟨T55, h55, k55, X55, e55, E55, A55, EA55, st55⟩ := newPE X50 hx hZ (hw _ (List.mem_of_getElem? (i := 2) rfl)) e50 (g := (F0 62 [] [(.int (3 : Int32)), (.int (3 : Int32)), (.ref b2), (.ref b2)])) rfl (hb hby at_62) rfl (by decide) (cap := 3) (by decide) (by decide) (by decide) (by decide) (ad := "[I") (by decide)
  obtain ⟨b55, g55⟩ : ∃ z, z = h50.size := ⟨_, rfl⟩
  rw [← g55] at A55 EA55 st55
  have V55 := Arv.new A55 (by decide)
  have gn55 : n0 ≤ b55 := Nat.le_trans Z50 (Nat.le_of_eq g55.symm)
  have Z55 : n0 ≤ h55.size := Nat.le_trans Z50 E55.1
  have K55 : own_K p e below G0 T55 (F0 64 [] [(.ref b55), (.int (3 : Int32)), (.ref b2), (.ref b2)]) := fun t kt => K51 t (st55 _ kt)
  have ne_b2_b55 : b2 ≠ b55 := Nat.ne_of_lt (Nat.lt_of_lt_of_le (VL50).lt (Nat.le_of_eq g55.symm))
  have ne_b4_b55 : b4 ≠ b55 := Nat.ne_of_lt (Nat.lt_of_lt_of_le (f52).lt (Nat.le_of_eq g55.symm))
  have ne_b20_b55 : b20 ≠ b55 := Nat.ne_of_lt (Nat.lt_of_lt_of_le (f53).lt (Nat.le_of_eq g55.symm))
  have ne_b37_b55 : b37 ≠ b55 := Nat.ne_of_lt (Nat.lt_of_lt_of_le (f54).lt (Nat.le_of_eq g55.symm))
  have VL55 : Arv Z h55 b55 k55 .int (3 : Int32) [(.int (0 : Int32)), (.int (0 : Int32)), (.int (0 : Int32))] (.int (0 : Int32)) := V55.pad (pad_rep [] (.int (0 : Int32)) 3)
  have K56 : own_K p e below G0 T55 (F0 67 [] [(.int (1 : Int32)), (.int (0 : Int32)), (.ref b55), (.ref b55), (.int (3 : Int32)), (.ref b2), (.ref b2)]) := by
    intro t kt
    refine K55 t ?_
    refine XS.dup X55.here hx rfl (hb hby at_64) rfl rfl ?_
    show own_S p e below T55 (mkF m 65 _ [(.ref b55), (.ref b55), (.int (3 : Int32)), (.ref b2), (.ref b2)]) _
    refine XS.iconst X55.here hx rfl (hb hby at_65) ?_
    show own_S p e below T55 (mkF m 66 _ [(.int (0 : Int32)), (.ref b55), (.ref b55), (.int (3 : Int32)), (.ref b2), (.ref b2)]) _
    refine XS.iconst X55.here hx rfl (hb hby at_66) ?_
    show own_S p e below T55 (mkF m 67 _ [(.int (1 : Int32)), (.int (0 : Int32)), (.ref b55), (.ref b55), (.int (3 : Int32)), (.ref b2), (.ref b2)]) _
    exact kt
  obtain ⟨cl57, Ar57, qq57, S57, M57, H57, GG57⟩ := id VL55
  have hin57 : ¬ ((0 : Int32) < 0 ∨ cl57.slots.size ≤ ((0 : Int32)).toNatClampNeg) := inb_of S57 ⟨by decide, by decide⟩
  obtain ⟨T58, h58, X58, e58, W58, st58⟩ := stI X55 hx hZ e55 Ar57 (j := (0 : Int32)) hin57 (g := (F0 67 [] [(.int (1 : Int32)), (.int (0 : Int32)), (.ref b55), (.ref b55), (.int (3 : Int32)), (.ref b2), (.ref b2)])) rfl rfl (hb hby at_67)
  have K58 : own_K p e below G0 T58 (F0 68 [] [(.ref b55), (.int (3 : Int32)), (.ref b2), (.ref b2)]) := fun t kt => K56 t (st58 _ kt)
  have Z58 : n0 ≤ h58.size := Nat.le_trans Z55 (Keep.of_wr W58).1
  have VL58 : Arv Z h58 b55 k55 .int (3 : Int32) [(.int (1 : Int32)), (.int (0 : Int32)), (.int (0 : Int32))] (.int (0 : Int32)) := Arv.set Ar57 qq57 S57 M57 H57 GG57 rfl W58 0 rfl (Nat.le_of_ble_eq_true rfl)
  have N58 := Fr.snoc X58 N50 gn55
  have K59 : own_K p e below G0 T58 (F0 71 [] [(.int (2 : Int32)), (.int (1 : Int32)), (.ref b55), (.ref b55), (.int (3 : Int32)), (.ref b2), (.ref b2)]) := by
    intro t kt
    refine K58 t ?_
    refine XS.dup X58.here hx rfl (hb hby at_68) rfl rfl ?_
    show own_S p e below T58 (mkF m 69 _ [(.ref b55), (.ref b55), (.int (3 : Int32)), (.ref b2), (.ref b2)]) _
    refine XS.iconst X58.here hx rfl (hb hby at_69) ?_
    show own_S p e below T58 (mkF m 70 _ [(.int (1 : Int32)), (.ref b55), (.ref b55), (.int (3 : Int32)), (.ref b2), (.ref b2)]) _
    refine XS.iconst X58.here hx rfl (hb hby at_70) ?_
    show own_S p e below T58 (mkF m 71 _ [(.int (2 : Int32)), (.int (1 : Int32)), (.ref b55), (.ref b55), (.int (3 : Int32)), (.ref b2), (.ref b2)]) _
    exact kt
  obtain ⟨cl60, Ar60, qq60, S60, M60, H60, GG60⟩ := id VL58
  have hin60 : ¬ ((1 : Int32) < 0 ∨ cl60.slots.size ≤ ((1 : Int32)).toNatClampNeg) := inb_of S60 ⟨by decide, by decide⟩
  obtain ⟨T61, h61, X61, e61, W61, st61⟩ := stI X58 hx hZ e58 Ar60 (j := (1 : Int32)) hin60 (g := (F0 71 [] [(.int (2 : Int32)), (.int (1 : Int32)), (.ref b55), (.ref b55), (.int (3 : Int32)), (.ref b2), (.ref b2)])) rfl rfl (hb hby at_71)
  have K61 : own_K p e below G0 T61 (F0 72 [] [(.ref b55), (.int (3 : Int32)), (.ref b2), (.ref b2)]) := fun t kt => K59 t (st61 _ kt)
  have Z61 : n0 ≤ h61.size := Nat.le_trans Z58 (Keep.of_wr W61).1
  have VL61 : Arv Z h61 b55 k55 .int (3 : Int32) [(.int (1 : Int32)), (.int (2 : Int32)), (.int (0 : Int32))] (.int (0 : Int32)) := Arv.set Ar60 qq60 S60 M60 H60 GG60 rfl W61 1 rfl (Nat.le_of_ble_eq_true rfl)
  have N61 := Fr.snoc X61 N58 gn55
  have K62 : own_K p e below G0 T61 (F0 75 [] [(.int (0 : Int32)), (.int (2 : Int32)), (.ref b55), (.ref b55), (.int (3 : Int32)), (.ref b2), (.ref b2)]) := by
    intro t kt
    refine K61 t ?_
    refine XS.dup X61.here hx rfl (hb hby at_72) rfl rfl ?_
    show own_S p e below T61 (mkF m 73 _ [(.ref b55), (.ref b55), (.int (3 : Int32)), (.ref b2), (.ref b2)]) _
    refine XS.iconst X61.here hx rfl (hb hby at_73) ?_
    show own_S p e below T61 (mkF m 74 _ [(.int (2 : Int32)), (.ref b55), (.ref b55), (.int (3 : Int32)), (.ref b2), (.ref b2)]) _
    refine XS.iconst X61.here hx rfl (hb hby at_74) ?_
    show own_S p e below T61 (mkF m 75 _ [(.int (0 : Int32)), (.int (2 : Int32)), (.ref b55), (.ref b55), (.int (3 : Int32)), (.ref b2), (.ref b2)]) _
    exact kt
  obtain ⟨cl63, Ar63, qq63, S63, M63, H63, GG63⟩ := id VL61
  have hin63 : ¬ ((2 : Int32) < 0 ∨ cl63.slots.size ≤ ((2 : Int32)).toNatClampNeg) := inb_of S63 ⟨by decide, by decide⟩
  obtain ⟨T64, h64, X64, e64, W64, st64⟩ := stI X61 hx hZ e61 Ar63 (j := (2 : Int32)) hin63 (g := (F0 75 [] [(.int (0 : Int32)), (.int (2 : Int32)), (.ref b55), (.ref b55), (.int (3 : Int32)), (.ref b2), (.ref b2)])) rfl rfl (hb hby at_75)
  have K64 : own_K p e below G0 T64 (F0 76 [] [(.ref b55), (.int (3 : Int32)), (.ref b2), (.ref b2)]) := fun t kt => K62 t (st64 _ kt)
  have Z64 : n0 ≤ h64.size := Nat.le_trans Z61 (Keep.of_wr W64).1
  have VL64 : Arv Z h64 b55 k55 .int (3 : Int32) [(.int (1 : Int32)), (.int (2 : Int32)), (.int (0 : Int32))] (.int (0 : Int32)) := Arv.set Ar63 qq63 S63 M63 H63 GG63 rfl W64 2 rfl (Nat.le_of_ble_eq_true rfl)
  have N64 := Fr.snoc X64 N61 gn55
  have f65 := ((((VL50.ext E55).other W58 ne_b2_b55).other W61 ne_b2_b55).other W64 ne_b2_b55)
  obtain ⟨cl66, Ar66, qq66, S66, M66, H66, GG66⟩ := id f65
  have hin66 : ¬ ((3 : Int32) < 0 ∨ cl66.slots.size ≤ ((3 : Int32)).toNatClampNeg) := inb_of S66 ⟨by decide, by decide⟩
  have f67 := (((EA55.wr W58).wr W61).wr W64)
  obtain ⟨T68, h68, X68, e68, W68, st68⟩ := stR X64 hx hZ e64 Ar66 (j := (3 : Int32)) hin66 rfl (Sto.ofVA Ar66 qq66 O2 (Ins.self f67)) (g := (F0 76 [] [(.ref b55), (.int (3 : Int32)), (.ref b2), (.ref b2)])) rfl rfl (hb hby at_76)
  have K68 : own_K p e below G0 T68 (F0 77 [] [(.ref b2)]) := fun t kt => K64 t (st68 _ kt)
  have Z68 : n0 ≤ h68.size := Nat.le_trans Z64 (Keep.of_wr W68).1
  have VL68 : Arv Z h68 b2 k2 (.array .int) (6 : Int32) [(.ref b4), (.ref b20), (.ref b37), (.ref b55), .null, .null] .null := Arv.set Ar66 qq66 S66 M66 H66 GG66 rfl W68 3 rfl (Nat.le_of_ble_eq_true rfl)
  have N68 := Fr.snoc X68 N64 gn2
  have K69 : own_K p e below G0 T68 (F0 80 [] [(.int (3 : Int32)), (.int (4 : Int32)), (.ref b2), (.ref b2)]) := by
    intro t kt
    refine K68 t ?_
    refine XS.dup X68.here hx rfl (hb hby at_77) rfl rfl ?_
    show own_S p e below T68 (mkF m 78 _ [(.ref b2), (.ref b2)]) _
    refine XS.iconst X68.here hx rfl (hb hby at_78) ?_
    show own_S p e below T68 (mkF m 79 _ [(.int (4 : Int32)), (.ref b2), (.ref b2)]) _
    refine XS.iconst X68.here hx rfl (hb hby at_79) ?_
    show own_S p e below T68 (mkF m 80 _ [(.int (3 : Int32)), (.int (4 : Int32)), (.ref b2), (.ref b2)]) _
    exact kt
  have f70 := (((((f52.ext E55).other W58 ne_b4_b55).other W61 ne_b4_b55).other W64 ne_b4_b55).other W68 (Ne.symm ne_b2_b4))
  have f71 := (((((f53.ext E55).other W58 ne_b20_b55).other W61 ne_b20_b55).other W64 ne_b20_b55).other W68 (Ne.symm ne_b2_b20))
  have f72 := (((((f54.ext E55).other W58 ne_b37_b55).other W61 ne_b37_b55).other W64 ne_b37_b55).other W68 (Ne.symm ne_b2_b37))
  have f73 := (VL64.other W68 (Ne.symm ne_b2_b55))
  obtain ⟨T74, h74, k74, X74, e74, E74, A74, EA74, st74⟩ := newPE X68 hx hZ (hw _ (List.mem_of_getElem? (i := 2) rfl)) e68 (g := (F0 80 [] [(.int (3 : Int32)), (.int (4 : Int32)), (.ref b2), (.ref b2)])) rfl (hb hby at_80) rfl (by decide) (cap := 3) (by decide) (by decide) (by decide) (by decide) (ad := "[I") (by decide)
  obtain ⟨b74, g74⟩ : ∃ z, z = h68.size := ⟨_, rfl⟩
  rw [← g74] at A74 EA74 st74
  have V74 := Arv.new A74 (by decide)
  have gn74 : n0 ≤ b74 := Nat.le_trans Z68 (Nat.le_of_eq g74.symm)
  have Z74 : n0 ≤ h74.size := Nat.le_trans Z68 E74.1
  have K74 : own_K p e below G0 T74 (F0 82 [] [(.ref b74), (.int (4 : Int32)), (.ref b2), (.ref b2)]) := fun t kt => K69 t (st74 _ kt)
  have ne_b2_b74 : b2 ≠ b74 := Nat.ne_of_lt (Nat.lt_of_lt_of_le (VL68).lt (Nat.le_of_eq g74.symm))
  have ne_b4_b74 : b4 ≠ b74 := Nat.ne_of_lt (Nat.lt_of_lt_of_le (f70).lt (Nat.le_of_eq g74.symm))
  have ne_b20_b74 : b20 ≠ b74 := Nat.ne_of_lt (Nat.lt_of_lt_of_le (f71).lt (Nat.le_of_eq g74.symm))
  have ne_b37_b74 : b37 ≠ b74 := Nat.ne_of_lt (Nat.lt_of_lt_of_le (f72).lt (Nat.le_of_eq g74.symm))
  have ne_b55_b74 : b55 ≠ b74 := Nat.ne_of_lt (Nat.lt_of_lt_of_le (f73).lt (Nat.le_of_eq g74.symm))
  have VL74 : Arv Z h74 b74 k74 .int (3 : Int32) [(.int (0 : Int32)), (.int (0 : Int32)), (.int (0 : Int32))] (.int (0 : Int32)) := V74.pad (pad_rep [] (.int (0 : Int32)) 3)
  have K75 : own_K p e below G0 T74 (F0 85 [] [(.int (2 : Int32)), (.int (0 : Int32)), (.ref b74), (.ref b74), (.int (4 : Int32)), (.ref b2), (.ref b2)]) := by
    intro t kt
    refine K74 t ?_
    refine XS.dup X74.here hx rfl (hb hby at_82) rfl rfl ?_
    show own_S p e below T74 (mkF m 83 _ [(.ref b74), (.ref b74), (.int (4 : Int32)), (.ref b2), (.ref b2)]) _
    refine XS.iconst X74.here hx rfl (hb hby at_83) ?_
    show own_S p e below T74 (mkF m 84 _ [(.int (0 : Int32)), (.ref b74), (.ref b74), (.int (4 : Int32)), (.ref b2), (.ref b2)]) _
    refine XS.iconst X74.here hx rfl (hb hby at_84) ?_
    show own_S p e below T74 (mkF m 85 _ [(.int (2 : Int32)), (.int (0 : Int32)), (.ref b74), (.ref b74), (.int (4 : Int32)), (.ref b2), (.ref b2)]) _
    exact kt
  obtain ⟨cl76, Ar76, qq76, S76, M76, H76, GG76⟩ := id VL74
  have hin76 : ¬ ((0 : Int32) < 0 ∨ cl76.slots.size ≤ ((0 : Int32)).toNatClampNeg) := inb_of S76 ⟨by decide, by decide⟩
  obtain ⟨T77, h77, X77, e77, W77, st77⟩ := stI X74 hx hZ e74 Ar76 (j := (0 : Int32)) hin76 (g := (F0 85 [] [(.int (2 : Int32)), (.int (0 : Int32)), (.ref b74), (.ref b74), (.int (4 : Int32)), (.ref b2), (.ref b2)])) rfl rfl (hb hby at_85)
  have K77 : own_K p e below G0 T77 (F0 86 [] [(.ref b74), (.int (4 : Int32)), (.ref b2), (.ref b2)]) := fun t kt => K75 t (st77 _ kt)
  have Z77 : n0 ≤ h77.size := Nat.le_trans Z74 (Keep.of_wr W77).1
  have VL77 : Arv Z h77 b74 k74 .int (3 : Int32) [(.int (2 : Int32)), (.int (0 : Int32)), (.int (0 : Int32))] (.int (0 : Int32)) := Arv.set Ar76 qq76 S76 M76 H76 GG76 rfl W77 0 rfl (Nat.le_of_ble_eq_true rfl)
  have N77 := Fr.snoc X77 N68 gn74
  have K78 : own_K p e below G0 T77 (F0 89 [] [(.int (0 : Int32)), (.int (1 : Int32)), (.ref b74), (.ref b74), (.int (4 : Int32)), (.ref b2), (.ref b2)]) := by
    intro t kt
    refine K77 t ?_
    refine XS.dup X77.here hx rfl (hb hby at_86) rfl rfl ?_
    show own_S p e below T77 (mkF m 87 _ [(.ref b74), (.ref b74), (.int (4 : Int32)), (.ref b2), (.ref b2)]) _
    refine XS.iconst X77.here hx rfl (hb hby at_87) ?_
    show own_S p e below T77 (mkF m 88 _ [(.int (1 : Int32)), (.ref b74), (.ref b74), (.int (4 : Int32)), (.ref b2), (.ref b2)]) _
    refine XS.iconst X77.here hx rfl (hb hby at_88) ?_
    show own_S p e below T77 (mkF m 89 _ [(.int (0 : Int32)), (.int (1 : Int32)), (.ref b74), (.ref b74), (.int (4 : Int32)), (.ref b2), (.ref b2)]) _
    exact kt
  obtain ⟨cl79, Ar79, qq79, S79, M79, H79, GG79⟩ := id VL77
  have hin79 : ¬ ((1 : Int32) < 0 ∨ cl79.slots.size ≤ ((1 : Int32)).toNatClampNeg) := inb_of S79 ⟨by decide, by decide⟩
  obtain ⟨T80, h80, X80, e80, W80, st80⟩ := stI X77 hx hZ e77 Ar79 (j := (1 : Int32)) hin79 (g := (F0 89 [] [(.int (0 : Int32)), (.int (1 : Int32)), (.ref b74), (.ref b74), (.int (4 : Int32)), (.ref b2), (.ref b2)])) rfl rfl (hb hby at_89)
  have K80 : own_K p e below G0 T80 (F0 90 [] [(.ref b74), (.int (4 : Int32)), (.ref b2), (.ref b2)]) := fun t kt => K78 t (st80 _ kt)
  have Z80 : n0 ≤ h80.size := Nat.le_trans Z77 (Keep.of_wr W80).1
  have VL80 : Arv Z h80 b74 k74 .int (3 : Int32) [(.int (2 : Int32)), (.int (0 : Int32)), (.int (0 : Int32))] (.int (0 : Int32)) := Arv.set Ar79 qq79 S79 M79 H79 GG79 rfl W80 1 rfl (Nat.le_of_ble_eq_true rfl)
  have N80 := Fr.snoc X80 N77 gn74
  have K81 : own_K p e below G0 T80 (F0 93 [] [(.int (1 : Int32)), (.int (2 : Int32)), (.ref b74), (.ref b74), (.int (4 : Int32)), (.ref b2), (.ref b2)]) := by
    intro t kt
    refine K80 t ?_
    refine XS.dup X80.here hx rfl (hb hby at_90) rfl rfl ?_
    show own_S p e below T80 (mkF m 91 _ [(.ref b74), (.ref b74), (.int (4 : Int32)), (.ref b2), (.ref b2)]) _
    refine XS.iconst X80.here hx rfl (hb hby at_91) ?_
    show own_S p e below T80 (mkF m 92 _ [(.int (2 : Int32)), (.ref b74), (.ref b74), (.int (4 : Int32)), (.ref b2), (.ref b2)]) _
    refine XS.iconst X80.here hx rfl (hb hby at_92) ?_
    show own_S p e below T80 (mkF m 93 _ [(.int (1 : Int32)), (.int (2 : Int32)), (.ref b74), (.ref b74), (.int (4 : Int32)), (.ref b2), (.ref b2)]) _
    exact kt
  obtain ⟨cl82, Ar82, qq82, S82, M82, H82, GG82⟩ := id VL80
  have hin82 : ¬ ((2 : Int32) < 0 ∨ cl82.slots.size ≤ ((2 : Int32)).toNatClampNeg) := inb_of S82 ⟨by decide, by decide⟩
  obtain ⟨T83, h83, X83, e83, W83, st83⟩ := stI X80 hx hZ e80 Ar82 (j := (2 : Int32)) hin82 (g := (F0 93 [] [(.int (1 : Int32)), (.int (2 : Int32)), (.ref b74), (.ref b74), (.int (4 : Int32)), (.ref b2), (.ref b2)])) rfl rfl (hb hby at_93)
  have K83 : own_K p e below G0 T83 (F0 94 [] [(.ref b74), (.int (4 : Int32)), (.ref b2), (.ref b2)]) := fun t kt => K81 t (st83 _ kt)
  have Z83 : n0 ≤ h83.size := Nat.le_trans Z80 (Keep.of_wr W83).1
  have VL83 : Arv Z h83 b74 k74 .int (3 : Int32) [(.int (2 : Int32)), (.int (0 : Int32)), (.int (1 : Int32))] (.int (0 : Int32)) := Arv.set Ar82 qq82 S82 M82 H82 GG82 rfl W83 2 rfl (Nat.le_of_ble_eq_true rfl)
  have N83 := Fr.snoc X83 N80 gn74
  have f84 := ((((VL68.ext E74).other W77 ne_b2_b74).other W80 ne_b2_b74).other W83 ne_b2_b74)
  obtain ⟨cl85, Ar85, qq85, S85, M85, H85, GG85⟩ := id f84
  have hin85 : ¬ ((4 : Int32) < 0 ∨ cl85.slots.size ≤ ((4 : Int32)).toNatClampNeg) := inb_of S85 ⟨by decide, by decide⟩
  have f86 := (((EA74.wr W77).wr W80).wr W83)
  obtain ⟨T87, h87, X87, e87, W87, st87⟩ := stR X83 hx hZ e83 Ar85 (j := (4 : Int32)) hin85 rfl (Sto.ofVA Ar85 qq85 O2 (Ins.self f86)) (g := (F0 94 [] [(.ref b74), (.int (4 : Int32)), (.ref b2), (.ref b2)])) rfl rfl (hb hby at_94)
  have K87 : own_K p e below G0 T87 (F0 95 [] [(.ref b2)]) := fun t kt => K83 t (st87 _ kt)
  have Z87 : n0 ≤ h87.size := Nat.le_trans Z83 (Keep.of_wr W87).1
  have VL87 : Arv Z h87 b2 k2 (.array .int) (6 : Int32) [(.ref b4), (.ref b20), (.ref b37), (.ref b55), (.ref b74), .null] .null := Arv.set Ar85 qq85 S85 M85 H85 GG85 rfl W87 4 rfl (Nat.le_of_ble_eq_true rfl)
  have N87 := Fr.snoc X87 N83 gn2
  have K88 : own_K p e below G0 T87 (F0 98 [] [(.int (3 : Int32)), (.int (5 : Int32)), (.ref b2), (.ref b2)]) := by
    intro t kt
    refine K87 t ?_
    refine XS.dup X87.here hx rfl (hb hby at_95) rfl rfl ?_
    show own_S p e below T87 (mkF m 96 _ [(.ref b2), (.ref b2)]) _
    refine XS.iconst X87.here hx rfl (hb hby at_96) ?_
    show own_S p e below T87 (mkF m 97 _ [(.int (5 : Int32)), (.ref b2), (.ref b2)]) _
    refine XS.iconst X87.here hx rfl (hb hby at_97) ?_
    show own_S p e below T87 (mkF m 98 _ [(.int (3 : Int32)), (.int (5 : Int32)), (.ref b2), (.ref b2)]) _
    exact kt
  have f89 := (((((f70.ext E74).other W77 ne_b4_b74).other W80 ne_b4_b74).other W83 ne_b4_b74).other W87 (Ne.symm ne_b2_b4))
  have f90 := (((((f71.ext E74).other W77 ne_b20_b74).other W80 ne_b20_b74).other W83 ne_b20_b74).other W87 (Ne.symm ne_b2_b20))
  have f91 := (((((f72.ext E74).other W77 ne_b37_b74).other W80 ne_b37_b74).other W83 ne_b37_b74).other W87 (Ne.symm ne_b2_b37))
  have f92 := (((((f73.ext E74).other W77 ne_b55_b74).other W80 ne_b55_b74).other W83 ne_b55_b74).other W87 (Ne.symm ne_b2_b55))
  have f93 := (VL83.other W87 (Ne.symm ne_b2_b74))
  obtain ⟨T94, h94, k94, X94, e94, E94, A94, EA94, st94⟩ := newPE X87 hx hZ (hw _ (List.mem_of_getElem? (i := 2) rfl)) e87 (g := (F0 98 [] [(.int (3 : Int32)), (.int (5 : Int32)), (.ref b2), (.ref b2)])) rfl (hb hby at_98) rfl (by decide) (cap := 3) (by decide) (by decide) (by decide) (by decide) (ad := "[I") (by decide)
  obtain ⟨b94, g94⟩ : ∃ z, z = h87.size := ⟨_, rfl⟩
  rw [← g94] at A94 EA94 st94
  have V94 := Arv.new A94 (by decide)
  have gn94 : n0 ≤ b94 := Nat.le_trans Z87 (Nat.le_of_eq g94.symm)
  have Z94 : n0 ≤ h94.size := Nat.le_trans Z87 E94.1
  have K94 : own_K p e below G0 T94 (F0 100 [] [(.ref b94), (.int (5 : Int32)), (.ref b2), (.ref b2)]) := fun t kt => K88 t (st94 _ kt)
  have ne_b2_b94 : b2 ≠ b94 := Nat.ne_of_lt (Nat.lt_of_lt_of_le (VL87).lt (Nat.le_of_eq g94.symm))
  have ne_b4_b94 : b4 ≠ b94 := Nat.ne_of_lt (Nat.lt_of_lt_of_le (f89).lt (Nat.le_of_eq g94.symm))
  have ne_b20_b94 : b20 ≠ b94 := Nat.ne_of_lt (Nat.lt_of_lt_of_le (f90).lt (Nat.le_of_eq g94.symm))
  have ne_b37_b94 : b37 ≠ b94 := Nat.ne_of_lt (Nat.lt_of_lt_of_le (f91).lt (Nat.le_of_eq g94.symm))
  have ne_b55_b94 : b55 ≠ b94 := Nat.ne_of_lt (Nat.lt_of_lt_of_le (f92).lt (Nat.le_of_eq g94.symm))
  have ne_b74_b94 : b74 ≠ b94 := Nat.ne_of_lt (Nat.lt_of_lt_of_le (f93).lt (Nat.le_of_eq g94.symm))
  have VL94 : Arv Z h94 b94 k94 .int (3 : Int32) [(.int (0 : Int32)), (.int (0 : Int32)), (.int (0 : Int32))] (.int (0 : Int32)) := V94.pad (pad_rep [] (.int (0 : Int32)) 3)
  have K95 : own_K p e below G0 T94 (F0 103 [] [(.int (2 : Int32)), (.int (0 : Int32)), (.ref b94), (.ref b94), (.int (5 : Int32)), (.ref b2), (.ref b2)]) := by
    intro t kt
    refine K94 t ?_
    refine XS.dup X94.here hx rfl (hb hby at_100) rfl rfl ?_
    show own_S p e below T94 (mkF m 101 _ [(.ref b94), (.ref b94), (.int (5 : Int32)), (.ref b2), (.ref b2)]) _
    refine XS.iconst X94.here hx rfl (hb hby at_101) ?_
    show own_S p e below T94 (mkF m 102 _ [(.int (0 : Int32)), (.ref b94), (.ref b94), (.int (5 : Int32)), (.ref b2), (.ref b2)]) _
    refine XS.iconst X94.here hx rfl (hb hby at_102) ?_
    show own_S p e below T94 (mkF m 103 _ [(.int (2 : Int32)), (.int (0 : Int32)), (.ref b94), (.ref b94), (.int (5 : Int32)), (.ref b2), (.ref b2)]) _
    exact kt
  obtain ⟨cl96, Ar96, qq96, S96, M96, H96, GG96⟩ := id VL94
  have hin96 : ¬ ((0 : Int32) < 0 ∨ cl96.slots.size ≤ ((0 : Int32)).toNatClampNeg) := inb_of S96 ⟨by decide, by decide⟩
  obtain ⟨T97, h97, X97, e97, W97, st97⟩ := stI X94 hx hZ e94 Ar96 (j := (0 : Int32)) hin96 (g := (F0 103 [] [(.int (2 : Int32)), (.int (0 : Int32)), (.ref b94), (.ref b94), (.int (5 : Int32)), (.ref b2), (.ref b2)])) rfl rfl (hb hby at_103)
  have K97 : own_K p e below G0 T97 (F0 104 [] [(.ref b94), (.int (5 : Int32)), (.ref b2), (.ref b2)]) := fun t kt => K95 t (st97 _ kt)
  have Z97 : n0 ≤ h97.size := Nat.le_trans Z94 (Keep.of_wr W97).1
  have VL97 : Arv Z h97 b94 k94 .int (3 : Int32) [(.int (2 : Int32)), (.int (0 : Int32)), (.int (0 : Int32))] (.int (0 : Int32)) := Arv.set Ar96 qq96 S96 M96 H96 GG96 rfl W97 0 rfl (Nat.le_of_ble_eq_true rfl)
  have N97 := Fr.snoc X97 N87 gn94
  have K98 : own_K p e below G0 T97 (F0 107 [] [(.int (1 : Int32)), (.int (1 : Int32)), (.ref b94), (.ref b94), (.int (5 : Int32)), (.ref b2), (.ref b2)]) := by
    intro t kt
    refine K97 t ?_
    refine XS.dup X97.here hx rfl (hb hby at_104) rfl rfl ?_
    show own_S p e below T97 (mkF m 105 _ [(.ref b94), (.ref b94), (.int (5 : Int32)), (.ref b2), (.ref b2)]) _
    refine XS.iconst X97.here hx rfl (hb hby at_105) ?_
    show own_S p e below T97 (mkF m 106 _ [(.int (1 : Int32)), (.ref b94), (.ref b94), (.int (5 : Int32)), (.ref b2), (.ref b2)]) _
    refine XS.iconst X97.here hx rfl (hb hby at_106) ?_
    show own_S p e below T97 (mkF m 107 _ [(.int (1 : Int32)), (.int (1 : Int32)), (.ref b94), (.ref b94), (.int (5 : Int32)), (.ref b2), (.ref b2)]) _
    exact kt
  obtain ⟨cl99, Ar99, qq99, S99, M99, H99, GG99⟩ := id VL97
  have hin99 : ¬ ((1 : Int32) < 0 ∨ cl99.slots.size ≤ ((1 : Int32)).toNatClampNeg) := inb_of S99 ⟨by decide, by decide⟩
  obtain ⟨T100, h100, X100, e100, W100, st100⟩ := stI X97 hx hZ e97 Ar99 (j := (1 : Int32)) hin99 (g := (F0 107 [] [(.int (1 : Int32)), (.int (1 : Int32)), (.ref b94), (.ref b94), (.int (5 : Int32)), (.ref b2), (.ref b2)])) rfl rfl (hb hby at_107)
  have K100 : own_K p e below G0 T100 (F0 108 [] [(.ref b94), (.int (5 : Int32)), (.ref b2), (.ref b2)]) := fun t kt => K98 t (st100 _ kt)
  have Z100 : n0 ≤ h100.size := Nat.le_trans Z97 (Keep.of_wr W100).1
  have VL100 : Arv Z h100 b94 k94 .int (3 : Int32) [(.int (2 : Int32)), (.int (1 : Int32)), (.int (0 : Int32))] (.int (0 : Int32)) := Arv.set Ar99 qq99 S99 M99 H99 GG99 rfl W100 1 rfl (Nat.le_of_ble_eq_true rfl)
  have N100 := Fr.snoc X100 N97 gn94
  have K101 : own_K p e below G0 T100 (F0 111 [] [(.int (0 : Int32)), (.int (2 : Int32)), (.ref b94), (.ref b94), (.int (5 : Int32)), (.ref b2), (.ref b2)]) := by
    intro t kt
    refine K100 t ?_
    refine XS.dup X100.here hx rfl (hb hby at_108) rfl rfl ?_
    show own_S p e below T100 (mkF m 109 _ [(.ref b94), (.ref b94), (.int (5 : Int32)), (.ref b2), (.ref b2)]) _
    refine XS.iconst X100.here hx rfl (hb hby at_109) ?_
    show own_S p e below T100 (mkF m 110 _ [(.int (2 : Int32)), (.ref b94), (.ref b94), (.int (5 : Int32)), (.ref b2), (.ref b2)]) _
    refine XS.iconst X100.here hx rfl (hb hby at_110) ?_
    show own_S p e below T100 (mkF m 111 _ [(.int (0 : Int32)), (.int (2 : Int32)), (.ref b94), (.ref b94), (.int (5 : Int32)), (.ref b2), (.ref b2)]) _
    exact kt
  obtain ⟨cl102, Ar102, qq102, S102, M102, H102, GG102⟩ := id VL100
  have hin102 : ¬ ((2 : Int32) < 0 ∨ cl102.slots.size ≤ ((2 : Int32)).toNatClampNeg) := inb_of S102 ⟨by decide, by decide⟩
  obtain ⟨T103, h103, X103, e103, W103, st103⟩ := stI X100 hx hZ e100 Ar102 (j := (2 : Int32)) hin102 (g := (F0 111 [] [(.int (0 : Int32)), (.int (2 : Int32)), (.ref b94), (.ref b94), (.int (5 : Int32)), (.ref b2), (.ref b2)])) rfl rfl (hb hby at_111)
  have K103 : own_K p e below G0 T103 (F0 112 [] [(.ref b94), (.int (5 : Int32)), (.ref b2), (.ref b2)]) := fun t kt => K101 t (st103 _ kt)
  have Z103 : n0 ≤ h103.size := Nat.le_trans Z100 (Keep.of_wr W103).1
  have VL103 : Arv Z h103 b94 k94 .int (3 : Int32) [(.int (2 : Int32)), (.int (1 : Int32)), (.int (0 : Int32))] (.int (0 : Int32)) := Arv.set Ar102 qq102 S102 M102 H102 GG102 rfl W103 2 rfl (Nat.le_of_ble_eq_true rfl)
  have N103 := Fr.snoc X103 N100 gn94
  have f104 := ((((VL87.ext E94).other W97 ne_b2_b94).other W100 ne_b2_b94).other W103 ne_b2_b94)
  obtain ⟨cl105, Ar105, qq105, S105, M105, H105, GG105⟩ := id f104
  have hin105 : ¬ ((5 : Int32) < 0 ∨ cl105.slots.size ≤ ((5 : Int32)).toNatClampNeg) := inb_of S105 ⟨by decide, by decide⟩
  have f106 := (((EA94.wr W97).wr W100).wr W103)
  obtain ⟨T107, h107, X107, e107, W107, st107⟩ := stR X103 hx hZ e103 Ar105 (j := (5 : Int32)) hin105 rfl (Sto.ofVA Ar105 qq105 O2 (Ins.self f106)) (g := (F0 112 [] [(.ref b94), (.int (5 : Int32)), (.ref b2), (.ref b2)])) rfl rfl (hb hby at_112)
  have K107 : own_K p e below G0 T107 (F0 113 [] [(.ref b2)]) := fun t kt => K103 t (st107 _ kt)
  have Z107 : n0 ≤ h107.size := Nat.le_trans Z103 (Keep.of_wr W107).1
  have VL107 : Arv Z h107 b2 k2 (.array .int) (6 : Int32) [(.ref b4), (.ref b20), (.ref b37), (.ref b55), (.ref b74), (.ref b94)] .null := Arv.set Ar105 qq105 S105 M105 H105 GG105 rfl W107 5 rfl (Nat.le_of_ble_eq_true rfl)
  have N107 := Fr.snoc X107 N103 gn2
  let F1 : Nat → List Slot → List Value → JFrame := fun pc r st => mkF m pc (List.toArray (.val (.int j0) :: .val (.int j1) :: .val (.int j2) :: .val (.int cf) :: .val (.int sh) :: .val (.int ex) :: r)) st
  have K108 : own_K p e below G0 T107 (F1 125 [.val (.ref b2), .unset, .unset, .unset, .unset, .unset, .unset, .unset, .unset, .unset, .unset, .unset, .unset, .unset, .unset, .unset, .unset, .unset, .unset, .unset, .unset, .unset, .unset, .unset, .unset, .unset, .unset, .unset, .unset, .unset, .unset, .unset, .unset, .unset, .unset, .unset, .unset, .unset, .unset, .unset, .unset, .unset, .unset, .unset, .unset, .unset, .unset, .unset, .unset, .unset, .unset] [(.int ((sh &&& (7 : Int32)) % (6 : Int32))), (.ref b2)]) := by
    intro t kt
    refine K107 t ?_
    refine XS.astore X107.here hx rfl (hb hby at_113) rfl rfl (l' := (F1 0 [.val (.ref b2), .unset, .unset, .unset, .unset, .unset, .unset, .unset, .unset, .unset, .unset, .unset, .unset, .unset, .unset, .unset, .unset, .unset, .unset, .unset, .unset, .unset, .unset, .unset, .unset, .unset, .unset, .unset, .unset, .unset, .unset, .unset, .unset, .unset, .unset, .unset, .unset, .unset, .unset, .unset, .unset, .unset, .unset, .unset, .unset, .unset, .unset, .unset, .unset, .unset, .unset] []).locals) rfl ?_
    show own_S p e below T107 (mkF m 115 _ []) _
    refine XS.aload X107.here hx rfl (hb hby at_115) rfl rfl ?_
    show own_S p e below T107 (mkF m 117 _ [(.ref b2)]) _
    refine XS.iload X107.here hx rfl (hb hby at_117) rfl ?_
    show own_S p e below T107 (mkF m 119 _ [(.int sh), (.ref b2)]) _
    refine XS.bipush X107.here hx rfl (hb hby at_119) ?_
    show own_S p e below T107 (mkF m 121 _ [(.int (7 : Int32)), (.int sh), (.ref b2)]) _
    refine XS.iand X107.here hx rfl (hb hby at_121) rfl ?_
    show own_S p e below T107 (mkF m 122 _ [(.int (sh &&& (7 : Int32))), (.ref b2)]) _
    refine XS.bipush X107.here hx rfl (hb hby at_122) ?_
    show own_S p e below T107 (mkF m 124 _ [(.int (6 : Int32)), (.int (sh &&& (7 : Int32))), (.ref b2)]) _
    refine iremM X107 hx rfl (hb hby at_124) rfl (by decide) ?_
    show own_S p e below T107 (mkF m 125 _ [(.int ((sh &&& (7 : Int32)) % (6 : Int32))), (.ref b2)]) _
    exact kt
  have f109 := (((((f89.ext E94).other W97 ne_b4_b94).other W100 ne_b4_b94).other W103 ne_b4_b94).other W107 (Ne.symm ne_b2_b4))
  have f110 := (((((f90.ext E94).other W97 ne_b20_b94).other W100 ne_b20_b94).other W103 ne_b20_b94).other W107 (Ne.symm ne_b2_b20))
  have f111 := (((((f91.ext E94).other W97 ne_b37_b94).other W100 ne_b37_b94).other W103 ne_b37_b94).other W107 (Ne.symm ne_b2_b37))
  have f112 := (((((f92.ext E94).other W97 ne_b55_b94).other W100 ne_b55_b94).other W103 ne_b55_b94).other W107 (Ne.symm ne_b2_b55))
  have f113 := (((((f93.ext E94).other W97 ne_b74_b94).other W100 ne_b74_b94).other W103 ne_b74_b94).other W107 (Ne.symm ne_b2_b74))
  have f114 := (VL103.other W107 (Ne.symm ne_b2_b94))
  obtain ⟨epA, kE, ea, eb, ec, hgE, V_epA, PE⟩ : ∃ (x : Addr) (k : ClassId) (a b c : Int32), ([(.ref b4), (.ref b20), (.ref b37), (.ref b55), (.ref b74), (.ref b94)] : List Value).getD (((sh &&& (7 : Int32)) % (6 : Int32))).toNatClampNeg .null = .ref x ∧ Arv Z h107 x k .int (3 : Int32) [(.int a), (.int b), (.int c)] (.int (0 : Int32)) ∧ own_P a b c := by
    rcases own_ix sh with q | q | q | q | q | q <;> rw [q]
    · exact ⟨_, _, _, _, _, rfl, f109, by unfold own_P own_R; decide⟩
    · exact ⟨_, _, _, _, _, rfl, f110, by unfold own_P own_R; decide⟩
    · exact ⟨_, _, _, _, _, rfl, f111, by unfold own_P own_R; decide⟩
    · exact ⟨_, _, _, _, _, rfl, f112, by unfold own_P own_R; decide⟩
    · exact ⟨_, _, _, _, _, rfl, f113, by unfold own_P own_R; decide⟩
    · exact ⟨_, _, _, _, _, rfl, f114, by unfold own_P own_R; decide⟩
  obtain ⟨hRea, hReb, hRec, ne_ea_eb, ne_ea_ec, ne_eb_ec⟩ := PE
  obtain ⟨cl115, Ar115, qq115, S115, M115, H115, GG115⟩ := id VL107
  have hin115 : ¬ ((((sh &&& (7 : Int32)) % (6 : Int32))) < 0 ∨ cl115.slots.size ≤ (((sh &&& (7 : Int32)) % (6 : Int32))).toNatClampNeg) := inb_of S115 (by rcases own_ix sh with q | q | q | q | q | q <;> rw [q] <;> decide)
  have hat115 : cl115.slots[(((sh &&& (7 : Int32)) % (6 : Int32))).toNatClampNeg]? = some (.ref epA) := Has.at H115 hin115 hgE
  have K116 : own_K p e below G0 T107 (F1 140 [.val (.ref b2), .val (.ref epA), .unset, .unset, .unset, .unset, .unset, .unset, .unset, .unset, .unset, .unset, .unset, .unset, .unset, .unset, .unset, .unset, .unset, .unset, .unset, .unset, .unset, .unset, .unset, .unset, .unset, .unset, .unset, .unset, .unset, .unset, .unset, .unset, .unset, .unset, .unset, .unset, .unset, .unset, .unset, .unset, .unset, .unset, .unset, .unset, .unset, .unset, .unset, .unset, .unset] [(.int ((((sh.toUInt32 >>> ((3 : Int32) &&& 31).toUInt32).toInt32) &&& (7 : Int32)) % (6 : Int32))), (.ref b2)]) := by
    intro t kt
    refine K108 t ?_
    refine X107.aaload hx (j := ((sh &&& (7 : Int32)) % (6 : Int32))) (v := (.ref epA)) (by rw [e107]; exact (Ar115).1) (State.isArrayOf_alike hZ.alike (Ar115).2.1) rfl (Ar115).2.2 hin115 hat115 (g := (F1 125 [.val (.ref b2), .unset, .unset, .unset, .unset, .unset, .unset, .unset, .unset, .unset, .unset, .unset, .unset, .unset, .unset, .unset, .unset, .unset, .unset, .unset, .unset, .unset, .unset, .unset, .unset, .unset, .unset, .unset, .unset, .unset, .unset, .unset, .unset, .unset, .unset, .unset, .unset, .unset, .unset, .unset, .unset, .unset, .unset, .unset, .unset, .unset, .unset, .unset, .unset, .unset, .unset] [(.int ((sh &&& (7 : Int32)) % (6 : Int32))), (.ref b2)])) rfl rfl (hb hby at_125) _ ?_
    show own_S p e below T107 (mkF m 126 _ [(.ref epA)]) _
    refine XS.astore X107.here hx rfl (hb hby at_126) rfl rfl (l' := (F1 0 [.val (.ref b2), .val (.ref epA), .unset, .unset, .unset, .unset, .unset, .unset, .unset, .unset, .unset, .unset, .unset, .unset, .unset, .unset, .unset, .unset, .unset, .unset, .unset, .unset, .unset, .unset, .unset, .unset, .unset, .unset, .unset, .unset, .unset, .unset, .unset, .unset, .unset, .unset, .unset, .unset, .unset, .unset, .unset, .unset, .unset, .unset, .unset, .unset, .unset, .unset, .unset, .unset, .unset] []).locals) rfl ?_
    show own_S p e below T107 (mkF m 128 _ []) _
    refine XS.aload X107.here hx rfl (hb hby at_128) rfl rfl ?_
    show own_S p e below T107 (mkF m 130 _ [(.ref b2)]) _
    refine XS.iload X107.here hx rfl (hb hby at_130) rfl ?_
    show own_S p e below T107 (mkF m 132 _ [(.int sh), (.ref b2)]) _
    refine XS.iconst X107.here hx rfl (hb hby at_132) ?_
    show own_S p e below T107 (mkF m 133 _ [(.int (3 : Int32)), (.int sh), (.ref b2)]) _
    refine XS.iushr X107.here hx rfl (hb hby at_133) rfl ?_
    show own_S p e below T107 (mkF m 134 _ [(.int ((sh.toUInt32 >>> ((3 : Int32) &&& 31).toUInt32).toInt32)), (.ref b2)]) _
    refine XS.bipush X107.here hx rfl (hb hby at_134) ?_
    show own_S p e below T107 (mkF m 136 _ [(.int (7 : Int32)), (.int ((sh.toUInt32 >>> ((3 : Int32) &&& 31).toUInt32).toInt32)), (.ref b2)]) _
    refine XS.iand X107.here hx rfl (hb hby at_136) rfl ?_
    show own_S p e below T107 (mkF m 137 _ [(.int (((sh.toUInt32 >>> ((3 : Int32) &&& 31).toUInt32).toInt32) &&& (7 : Int32))), (.ref b2)]) _
    refine XS.bipush X107.here hx rfl (hb hby at_137) ?_
    show own_S p e below T107 (mkF m 139 _ [(.int (6 : Int32)), (.int (((sh.toUInt32 >>> ((3 : Int32) &&& 31).toUInt32).toInt32) &&& (7 : Int32))), (.ref b2)]) _
    refine iremM X107 hx rfl (hb hby at_139) rfl (by decide) ?_
    show own_S p e below T107 (mkF m 140 _ [(.int ((((sh.toUInt32 >>> ((3 : Int32) &&& 31).toUInt32).toInt32) &&& (7 : Int32)) % (6 : Int32))), (.ref b2)]) _
    exact kt
  obtain ⟨upA, kU, g0, g1, gf, hgU, V_upA, PU⟩ : ∃ (x : Addr) (k : ClassId) (a b c : Int32), ([(.ref b4), (.ref b20), (.ref b37), (.ref b55), (.ref b74), (.ref b94)] : List Value).getD (((((sh.toUInt32 >>> ((3 : Int32) &&& 31).toUInt32).toInt32) &&& (7 : Int32)) % (6 : Int32))).toNatClampNeg .null = .ref x ∧ Arv Z h107 x k .int (3 : Int32) [(.int a), (.int b), (.int c)] (.int (0 : Int32)) ∧ own_P a b c := by
    rcases own_ix ((sh.toUInt32 >>> ((3 : Int32) &&& 31).toUInt32).toInt32) with q | q | q | q | q | q <;> rw [q]
    · exact ⟨_, _, _, _, _, rfl, f109, by unfold own_P own_R; decide⟩
    · exact ⟨_, _, _, _, _, rfl, f110, by unfold own_P own_R; decide⟩
    · exact ⟨_, _, _, _, _, rfl, f111, by unfold own_P own_R; decide⟩
    · exact ⟨_, _, _, _, _, rfl, f112, by unfold own_P own_R; decide⟩
    · exact ⟨_, _, _, _, _, rfl, f113, by unfold own_P own_R; decide⟩
    · exact ⟨_, _, _, _, _, rfl, f114, by unfold own_P own_R; decide⟩
  obtain ⟨hRg0, hRg1, hRgf, ne_g0_g1, ne_g0_gf, ne_g1_gf⟩ := PU
  obtain ⟨cl117, Ar117, qq117, S117, M117, H117, GG117⟩ := id VL107
  have hin117 : ¬ ((((((sh.toUInt32 >>> ((3 : Int32) &&& 31).toUInt32).toInt32) &&& (7 : Int32)) % (6 : Int32))) < 0 ∨ cl117.slots.size ≤ (((((sh.toUInt32 >>> ((3 : Int32) &&& 31).toUInt32).toInt32) &&& (7 : Int32)) % (6 : Int32))).toNatClampNeg) := inb_of S117 (by rcases own_ix ((sh.toUInt32 >>> ((3 : Int32) &&& 31).toUInt32).toInt32) with q | q | q | q | q | q <;> rw [q] <;> decide)
  have hat117 : cl117.slots[(((((sh.toUInt32 >>> ((3 : Int32) &&& 31).toUInt32).toInt32) &&& (7 : Int32)) % (6 : Int32))).toNatClampNeg]? = some (.ref upA) := Has.at H117 hin117 hgU
  have K118 : own_K p e below G0 T107 (F1 150 [.val (.ref b2), .val (.ref epA), .val (.ref upA), .unset, .unset, .unset, .unset, .unset, .unset, .unset, .unset, .unset, .unset, .unset, .unset, .unset, .unset, .unset, .unset, .unset, .unset, .unset, .unset, .unset, .unset, .unset, .unset, .unset, .unset, .unset, .unset, .unset, .unset, .unset, .unset, .unset, .unset, .unset, .unset, .unset, .unset, .unset, .unset, .unset, .unset, .unset, .unset, .unset, .unset, .unset, .unset] [(.int (((sh.toUInt32 >>> ((6 : Int32) &&& 31).toUInt32).toInt32) &&& (1 : Int32)))]) := by
    intro t kt
    refine K116 t ?_
    refine X107.aaload hx (j := ((((sh.toUInt32 >>> ((3 : Int32) &&& 31).toUInt32).toInt32) &&& (7 : Int32)) % (6 : Int32))) (v := (.ref upA)) (by rw [e107]; exact (Ar117).1) (State.isArrayOf_alike hZ.alike (Ar117).2.1) rfl (Ar117).2.2 hin117 hat117 (g := (F1 140 [.val (.ref b2), .val (.ref epA), .unset, .unset, .unset, .unset, .unset, .unset, .unset, .unset, .unset, .unset, .unset, .unset, .unset, .unset, .unset, .unset, .unset, .unset, .unset, .unset, .unset, .unset, .unset, .unset, .unset, .unset, .unset, .unset, .unset, .unset, .unset, .unset, .unset, .unset, .unset, .unset, .unset, .unset, .unset, .unset, .unset, .unset, .unset, .unset, .unset, .unset, .unset, .unset, .unset] [(.int ((((sh.toUInt32 >>> ((3 : Int32) &&& 31).toUInt32).toInt32) &&& (7 : Int32)) % (6 : Int32))), (.ref b2)])) rfl rfl (hb hby at_140) _ ?_
    show own_S p e below T107 (mkF m 141 _ [(.ref upA)]) _
    refine XS.astore X107.here hx rfl (hb hby at_141) rfl rfl (l' := (F1 0 [.val (.ref b2), .val (.ref epA), .val (.ref upA), .unset, .unset, .unset, .unset, .unset, .unset, .unset, .unset, .unset, .unset, .unset, .unset, .unset, .unset, .unset, .unset, .unset, .unset, .unset, .unset, .unset, .unset, .unset, .unset, .unset, .unset, .unset, .unset, .unset, .unset, .unset, .unset, .unset, .unset, .unset, .unset, .unset, .unset, .unset, .unset, .unset, .unset, .unset, .unset, .unset, .unset, .unset, .unset] []).locals) rfl ?_
    show own_S p e below T107 (mkF m 143 _ []) _
    refine XS.iload X107.here hx rfl (hb hby at_143) rfl ?_
    show own_S p e below T107 (mkF m 145 _ [(.int sh)]) _
    refine XS.bipush X107.here hx rfl (hb hby at_145) ?_
    show own_S p e below T107 (mkF m 147 _ [(.int (6 : Int32)), (.int sh)]) _
    refine XS.iushr X107.here hx rfl (hb hby at_147) rfl ?_
    show own_S p e below T107 (mkF m 148 _ [(.int ((sh.toUInt32 >>> ((6 : Int32) &&& 31).toUInt32).toInt32))]) _
    refine XS.iconst X107.here hx rfl (hb hby at_148) ?_
    show own_S p e below T107 (mkF m 149 _ [(.int (1 : Int32)), (.int ((sh.toUInt32 >>> ((6 : Int32) &&& 31).toUInt32).toInt32))]) _
    refine XS.iand X107.here hx rfl (hb hby at_149) rfl ?_
    show own_S p e below T107 (mkF m 150 _ [(.int (((sh.toUInt32 >>> ((6 : Int32) &&& 31).toUInt32).toInt32) &&& (1 : Int32)))]) _
    exact kt
  have K119 : own_K p e below G0 T107 (F1 160 [.val (.ref b2), .val (.ref epA), .val (.ref upA), .val (.int (if (((sh.toUInt32 >>> ((6 : Int32) &&& 31).toUInt32).toInt32) &&& (1 : Int32)) = (0 : Int32) then (0 : Int32) else (1 : Int32))), .unset, .unset, .unset, .unset, .unset, .unset, .unset, .unset, .unset, .unset, .unset, .unset, .unset, .unset, .unset, .unset, .unset, .unset, .unset, .unset, .unset, .unset, .unset, .unset, .unset, .unset, .unset, .unset, .unset, .unset, .unset, .unset, .unset, .unset, .unset, .unset, .unset, .unset, .unset, .unset, .unset, .unset, .unset, .unset, .unset, .unset, .unset] []) := by
    by_cases hc120 : (((sh.toUInt32 >>> ((6 : Int32) &&& 31).toUInt32).toInt32) &&& (1 : Int32)) = (0 : Int32)
    ·
      have K121 : own_K p e below G0 T107 (F1 160 [.val (.ref b2), .val (.ref epA), .val (.ref upA), .val (.int (0 : Int32)), .unset, .unset, .unset, .unset, .unset, .unset, .unset, .unset, .unset, .unset, .unset, .unset, .unset, .unset, .unset, .unset, .unset, .unset, .unset, .unset, .unset, .unset, .unset, .unset, .unset, .unset, .unset, .unset, .unset, .unset, .unset, .unset, .unset, .unset, .unset, .unset, .unset, .unset, .unset, .unset, .unset, .unset, .unset, .unset, .unset, .unset, .unset] []) := by
        intro t kt
        refine K118 t ?_
        refine XS.ifYes X107.here hx rfl (pc0 := 150) (pc' := 157) rfl (hb hby at_150) rfl ((if0 _ _).trans (teq hc120).1) (by decide) (by decide) ?_
        show own_S p e below T107 (mkF m 157 _ []) _
        refine XS.iconst X107.here hx rfl (hb hby at_157) ?_
        show own_S p e below T107 (mkF m 158 _ [(.int (0 : Int32))]) _
        refine XS.istore X107.here hx rfl (hb hby at_158) rfl (l' := (F1 0 [.val (.ref b2), .val (.ref epA), .val (.ref upA), .val (.int (0 : Int32)), .unset, .unset, .unset, .unset, .unset, .unset, .unset, .unset, .unset, .unset, .unset, .unset, .unset, .unset, .unset, .unset, .unset, .unset, .unset, .unset, .unset, .unset, .unset, .unset, .unset, .unset, .unset, .unset, .unset, .unset, .unset, .unset, .unset, .unset, .unset, .unset, .unset, .unset, .unset, .unset, .unset, .unset, .unset, .unset, .unset, .unset, .unset] []).locals) rfl ?_
        show own_S p e below T107 (mkF m 160 _ []) _
        exact kt
      rw [if_pos hc120]
      exact K121
    ·
      have K122 : own_K p e below G0 T107 (F1 160 [.val (.ref b2), .val (.ref epA), .val (.ref upA), .val (.int (1 : Int32)), .unset, .unset, .unset, .unset, .unset, .unset, .unset, .unset, .unset, .unset, .unset, .unset, .unset, .unset, .unset, .unset, .unset, .unset, .unset, .unset, .unset, .unset, .unset, .unset, .unset, .unset, .unset, .unset, .unset, .unset, .unset, .unset, .unset, .unset, .unset, .unset, .unset, .unset, .unset, .unset, .unset, .unset, .unset, .unset, .unset, .unset, .unset] []) := by
        intro t kt
        refine K118 t ?_
        refine XS.ifNo X107.here hx rfl (hb hby at_150) rfl ((if0 _ _).trans (feq hc120).1) ?_
        show own_S p e below T107 (mkF m 153 _ []) _
        refine XS.iconst X107.here hx rfl (hb hby at_153) ?_
        show own_S p e below T107 (mkF m 154 _ [(.int (1 : Int32))]) _
        refine XS.goto X107.here hx rfl (pc0 := 154) (pc' := 158) rfl (hb hby at_154) (by decide) (by decide) ?_
        show own_S p e below T107 (mkF m 158 _ [(.int (1 : Int32))]) _
        refine XS.istore X107.here hx rfl (hb hby at_158) rfl (l' := (F1 0 [.val (.ref b2), .val (.ref epA), .val (.ref upA), .val (.int (1 : Int32)), .unset, .unset, .unset, .unset, .unset, .unset, .unset, .unset, .unset, .unset, .unset, .unset, .unset, .unset, .unset, .unset, .unset, .unset, .unset, .unset, .unset, .unset, .unset, .unset, .unset, .unset, .unset, .unset, .unset, .unset, .unset, .unset, .unset, .unset, .unset, .unset, .unset, .unset, .unset, .unset, .unset, .unset, .unset, .unset, .unset, .unset, .unset] []).locals) rfl ?_
        show own_S p e below T107 (mkF m 160 _ []) _
        exact kt
      rw [if_neg hc120]
      exact K122
  obtain ⟨rdf, h_rdf⟩ : ∃ z, z = (if (((sh.toUInt32 >>> ((6 : Int32) &&& 31).toUInt32).toInt32) &&& (1 : Int32)) = (0 : Int32) then (0 : Int32) else (1 : Int32)) := ⟨_, rfl⟩
  rw [← h_rdf] at K119
  have K123 : own_K p e below G0 T107 (F1 167 [.val (.ref b2), .val (.ref epA), .val (.ref upA), .val (.int rdf), .unset, .unset, .unset, .unset, .unset, .unset, .unset, .unset, .unset, .unset, .unset, .unset, .unset, .unset, .unset, .unset, .unset, .unset, .unset, .unset, .unset, .unset, .unset, .unset, .unset, .unset, .unset, .unset, .unset, .unset, .unset, .unset, .unset, .unset, .unset, .unset, .unset, .unset, .unset, .unset, .unset, .unset, .unset, .unset, .unset, .unset, .unset] [(.int (((sh.toUInt32 >>> ((7 : Int32) &&& 31).toUInt32).toInt32) &&& (1 : Int32)))]) := by
    intro t kt
    refine K119 t ?_
    refine XS.iload X107.here hx rfl (hb hby at_160) rfl ?_
    show own_S p e below T107 (mkF m 162 _ [(.int sh)]) _
    refine XS.bipush X107.here hx rfl (hb hby at_162) ?_
    show own_S p e below T107 (mkF m 164 _ [(.int (7 : Int32)), (.int sh)]) _
    refine XS.iushr X107.here hx rfl (hb hby at_164) rfl ?_
    show own_S p e below T107 (mkF m 165 _ [(.int ((sh.toUInt32 >>> ((7 : Int32) &&& 31).toUInt32).toInt32))]) _
    refine XS.iconst X107.here hx rfl (hb hby at_165) ?_
    show own_S p e below T107 (mkF m 166 _ [(.int (1 : Int32)), (.int ((sh.toUInt32 >>> ((7 : Int32) &&& 31).toUInt32).toInt32))]) _
    refine XS.iand X107.here hx rfl (hb hby at_166) rfl ?_
    show own_S p e below T107 (mkF m 167 _ [(.int (((sh.toUInt32 >>> ((7 : Int32) &&& 31).toUInt32).toInt32) &&& (1 : Int32)))]) _
    exact kt
  have K124 : own_K p e below G0 T107 (F1 177 [.val (.ref b2), .val (.ref epA), .val (.ref upA), .val (.int rdf), .val (.int (if (((sh.toUInt32 >>> ((7 : Int32) &&& 31).toUInt32).toInt32) &&& (1 : Int32)) = (0 : Int32) then (0 : Int32) else (1 : Int32))), .unset, .unset, .unset, .unset, .unset, .unset, .unset, .unset, .unset, .unset, .unset, .unset, .unset, .unset, .unset, .unset, .unset, .unset, .unset, .unset, .unset, .unset, .unset, .unset, .unset, .unset, .unset, .unset, .unset, .unset, .unset, .unset, .unset, .unset, .unset, .unset, .unset, .unset, .unset, .unset, .unset, .unset, .unset, .unset, .unset, .unset] []) := by
    by_cases hc125 : (((sh.toUInt32 >>> ((7 : Int32) &&& 31).toUInt32).toInt32) &&& (1 : Int32)) = (0 : Int32)
    ·
      have K126 : own_K p e below G0 T107 (F1 177 [.val (.ref b2), .val (.ref epA), .val (.ref upA), .val (.int rdf), .val (.int (0 : Int32)), .unset, .unset, .unset, .unset, .unset, .unset, .unset, .unset, .unset, .unset, .unset, .unset, .unset, .unset, .unset, .unset, .unset, .unset, .unset, .unset, .unset, .unset, .unset, .unset, .unset, .unset, .unset, .unset, .unset, .unset, .unset, .unset, .unset, .unset, .unset, .unset, .unset, .unset, .unset, .unset, .unset, .unset, .unset, .unset, .unset, .unset] []) := by
        intro t kt
        refine K123 t ?_
        refine XS.ifYes X107.here hx rfl (pc0 := 167) (pc' := 174) rfl (hb hby at_167) rfl ((if0 _ _).trans (teq hc125).1) (by decide) (by decide) ?_
        show own_S p e below T107 (mkF m 174 _ []) _
        refine XS.iconst X107.here hx rfl (hb hby at_174) ?_
        show own_S p e below T107 (mkF m 175 _ [(.int (0 : Int32))]) _
        refine XS.istore X107.here hx rfl (hb hby at_175) rfl (l' := (F1 0 [.val (.ref b2), .val (.ref epA), .val (.ref upA), .val (.int rdf), .val (.int (0 : Int32)), .unset, .unset, .unset, .unset, .unset, .unset, .unset, .unset, .unset, .unset, .unset, .unset, .unset, .unset, .unset, .unset, .unset, .unset, .unset, .unset, .unset, .unset, .unset, .unset, .unset, .unset, .unset, .unset, .unset, .unset, .unset, .unset, .unset, .unset, .unset, .unset, .unset, .unset, .unset, .unset, .unset, .unset, .unset, .unset, .unset, .unset] []).locals) rfl ?_
        show own_S p e below T107 (mkF m 177 _ []) _
        exact kt
      rw [if_pos hc125]
      exact K126
    ·
      have K127 : own_K p e below G0 T107 (F1 177 [.val (.ref b2), .val (.ref epA), .val (.ref upA), .val (.int rdf), .val (.int (1 : Int32)), .unset, .unset, .unset, .unset, .unset, .unset, .unset, .unset, .unset, .unset, .unset, .unset, .unset, .unset, .unset, .unset, .unset, .unset, .unset, .unset, .unset, .unset, .unset, .unset, .unset, .unset, .unset, .unset, .unset, .unset, .unset, .unset, .unset, .unset, .unset, .unset, .unset, .unset, .unset, .unset, .unset, .unset, .unset, .unset, .unset, .unset] []) := by
        intro t kt
        refine K123 t ?_
        refine XS.ifNo X107.here hx rfl (hb hby at_167) rfl ((if0 _ _).trans (feq hc125).1) ?_
        show own_S p e below T107 (mkF m 170 _ []) _
        refine XS.iconst X107.here hx rfl (hb hby at_170) ?_
        show own_S p e below T107 (mkF m 171 _ [(.int (1 : Int32))]) _
        refine XS.goto X107.here hx rfl (pc0 := 171) (pc' := 175) rfl (hb hby at_171) (by decide) (by decide) ?_
        show own_S p e below T107 (mkF m 175 _ [(.int (1 : Int32))]) _
        refine XS.istore X107.here hx rfl (hb hby at_175) rfl (l' := (F1 0 [.val (.ref b2), .val (.ref epA), .val (.ref upA), .val (.int rdf), .val (.int (1 : Int32)), .unset, .unset, .unset, .unset, .unset, .unset, .unset, .unset, .unset, .unset, .unset, .unset, .unset, .unset, .unset, .unset, .unset, .unset, .unset, .unset, .unset, .unset, .unset, .unset, .unset, .unset, .unset, .unset, .unset, .unset, .unset, .unset, .unset, .unset, .unset, .unset, .unset, .unset, .unset, .unset, .unset, .unset, .unset, .unset, .unset, .unset] []).locals) rfl ?_
        show own_S p e below T107 (mkF m 177 _ []) _
        exact kt
      rw [if_neg hc125]
      exact K127
  obtain ⟨wdf, h_wdf⟩ : ∃ z, z = (if (((sh.toUInt32 >>> ((7 : Int32) &&& 31).toUInt32).toInt32) &&& (1 : Int32)) = (0 : Int32) then (0 : Int32) else (1 : Int32)) := ⟨_, rfl⟩
  rw [← h_wdf] at K124
  have K128 : own_K p e below G0 T107 (F1 190 [.val (.ref b2), .val (.ref epA), .val (.ref upA), .val (.int rdf), .val (.int wdf), .val (.int ((((sh.toUInt32 >>> ((8 : Int32) &&& 31).toUInt32).toInt32) &&& (15 : Int32)) - (8 : Int32))), .unset, .unset, .unset, .unset, .unset, .unset, .unset, .unset, .unset, .unset, .unset, .unset, .unset, .unset, .unset, .unset, .unset, .unset, .unset, .unset, .unset, .unset, .unset, .unset, .unset, .unset, .unset, .unset, .unset, .unset, .unset, .unset, .unset, .unset, .unset, .unset, .unset, .unset, .unset, .unset, .unset, .unset, .unset, .unset, .unset] []) := by
    intro t kt
    refine K124 t ?_
    refine XS.iload X107.here hx rfl (hb hby at_177) rfl ?_
    show own_S p e below T107 (mkF m 179 _ [(.int sh)]) _
    refine XS.bipush X107.here hx rfl (hb hby at_179) ?_
    show own_S p e below T107 (mkF m 181 _ [(.int (8 : Int32)), (.int sh)]) _
    refine XS.iushr X107.here hx rfl (hb hby at_181) rfl ?_
    show own_S p e below T107 (mkF m 182 _ [(.int ((sh.toUInt32 >>> ((8 : Int32) &&& 31).toUInt32).toInt32))]) _
    refine XS.bipush X107.here hx rfl (hb hby at_182) ?_
    show own_S p e below T107 (mkF m 184 _ [(.int (15 : Int32)), (.int ((sh.toUInt32 >>> ((8 : Int32) &&& 31).toUInt32).toInt32))]) _
    refine XS.iand X107.here hx rfl (hb hby at_184) rfl ?_
    show own_S p e below T107 (mkF m 185 _ [(.int (((sh.toUInt32 >>> ((8 : Int32) &&& 31).toUInt32).toInt32) &&& (15 : Int32)))]) _
    refine XS.bipush X107.here hx rfl (hb hby at_185) ?_
    show own_S p e below T107 (mkF m 187 _ [(.int (8 : Int32)), (.int (((sh.toUInt32 >>> ((8 : Int32) &&& 31).toUInt32).toInt32) &&& (15 : Int32)))]) _
    refine XS.isub X107.here hx rfl (hb hby at_187) rfl ?_
    show own_S p e below T107 (mkF m 188 _ [(.int ((((sh.toUInt32 >>> ((8 : Int32) &&& 31).toUInt32).toInt32) &&& (15 : Int32)) - (8 : Int32)))]) _
    refine XS.istore X107.here hx rfl (hb hby at_188) rfl (l' := (F1 0 [.val (.ref b2), .val (.ref epA), .val (.ref upA), .val (.int rdf), .val (.int wdf), .val (.int ((((sh.toUInt32 >>> ((8 : Int32) &&& 31).toUInt32).toInt32) &&& (15 : Int32)) - (8 : Int32))), .unset, .unset, .unset, .unset, .unset, .unset, .unset, .unset, .unset, .unset, .unset, .unset, .unset, .unset, .unset, .unset, .unset, .unset, .unset, .unset, .unset, .unset, .unset, .unset, .unset, .unset, .unset, .unset, .unset, .unset, .unset, .unset, .unset, .unset, .unset, .unset, .unset, .unset, .unset, .unset, .unset, .unset, .unset, .unset, .unset] []).locals) rfl ?_
    show own_S p e below T107 (mkF m 190 _ []) _
    exact kt
  obtain ⟨di, h_di⟩ : ∃ z, z = ((((sh.toUInt32 >>> ((8 : Int32) &&& 31).toUInt32).toInt32) &&& (15 : Int32)) - (8 : Int32)) := ⟨_, rfl⟩
  rw [← h_di] at K128
  have bd : di.toInt.natAbs ≤ 8 := by rw [h_di]; exact own_B8 _
  have K129 : own_K p e below G0 T107 (F1 202 [.val (.ref b2), .val (.ref epA), .val (.ref upA), .val (.int rdf), .val (.int wdf), .val (.int di), .val (.int ((1 : Int32) <<< ((cf &&& (3 : Int32)) &&& 31))), .unset, .unset, .unset, .unset, .unset, .unset, .unset, .unset, .unset, .unset, .unset, .unset, .unset, .unset, .unset, .unset, .unset, .unset, .unset, .unset, .unset, .unset, .unset, .unset, .unset, .unset, .unset, .unset, .unset, .unset, .unset, .unset, .unset, .unset, .unset, .unset, .unset, .unset, .unset, .unset, .unset, .unset, .unset, .unset] [(.int (((cf.toUInt32 >>> ((2 : Int32) &&& 31).toUInt32).toInt32) &&& (1 : Int32)))]) := by
    intro t kt
    refine K128 t ?_
    refine XS.iconst X107.here hx rfl (hb hby at_190) ?_
    show own_S p e below T107 (mkF m 191 _ [(.int (1 : Int32))]) _
    refine XS.iloadN X107.here hx rfl (hb hby at_191) rfl ?_
    show own_S p e below T107 (mkF m 192 _ [(.int cf), (.int (1 : Int32))]) _
    refine XS.iconst X107.here hx rfl (hb hby at_192) ?_
    show own_S p e below T107 (mkF m 193 _ [(.int (3 : Int32)), (.int cf), (.int (1 : Int32))]) _
    refine XS.iand X107.here hx rfl (hb hby at_193) rfl ?_
    show own_S p e below T107 (mkF m 194 _ [(.int (cf &&& (3 : Int32))), (.int (1 : Int32))]) _
    refine XS.ishl X107.here hx rfl (hb hby at_194) rfl ?_
    show own_S p e below T107 (mkF m 195 _ [(.int ((1 : Int32) <<< ((cf &&& (3 : Int32)) &&& 31)))]) _
    refine XS.istore X107.here hx rfl (hb hby at_195) rfl (l' := (F1 0 [.val (.ref b2), .val (.ref epA), .val (.ref upA), .val (.int rdf), .val (.int wdf), .val (.int di), .val (.int ((1 : Int32) <<< ((cf &&& (3 : Int32)) &&& 31))), .unset, .unset, .unset, .unset, .unset, .unset, .unset, .unset, .unset, .unset, .unset, .unset, .unset, .unset, .unset, .unset, .unset, .unset, .unset, .unset, .unset, .unset, .unset, .unset, .unset, .unset, .unset, .unset, .unset, .unset, .unset, .unset, .unset, .unset, .unset, .unset, .unset, .unset, .unset, .unset, .unset, .unset, .unset, .unset] []).locals) rfl ?_
    show own_S p e below T107 (mkF m 197 _ []) _
    refine XS.iloadN X107.here hx rfl (hb hby at_197) rfl ?_
    show own_S p e below T107 (mkF m 198 _ [(.int cf)]) _
    refine XS.iconst X107.here hx rfl (hb hby at_198) ?_
    show own_S p e below T107 (mkF m 199 _ [(.int (2 : Int32)), (.int cf)]) _
    refine XS.iushr X107.here hx rfl (hb hby at_199) rfl ?_
    show own_S p e below T107 (mkF m 200 _ [(.int ((cf.toUInt32 >>> ((2 : Int32) &&& 31).toUInt32).toInt32))]) _
    refine XS.iconst X107.here hx rfl (hb hby at_200) ?_
    show own_S p e below T107 (mkF m 201 _ [(.int (1 : Int32)), (.int ((cf.toUInt32 >>> ((2 : Int32) &&& 31).toUInt32).toInt32))]) _
    refine XS.iand X107.here hx rfl (hb hby at_201) rfl ?_
    show own_S p e below T107 (mkF m 202 _ [(.int (((cf.toUInt32 >>> ((2 : Int32) &&& 31).toUInt32).toInt32) &&& (1 : Int32)))]) _
    exact kt
  have K130 : own_K p e below G0 T107 (F1 210 [.val (.ref b2), .val (.ref epA), .val (.ref upA), .val (.int rdf), .val (.int wdf), .val (.int di), .val (.int (if (((cf.toUInt32 >>> ((2 : Int32) &&& 31).toUInt32).toInt32) &&& (1 : Int32)) = (0 : Int32) then ((1 : Int32) <<< ((cf &&& (3 : Int32)) &&& 31)) else (-((1 : Int32) <<< ((cf &&& (3 : Int32)) &&& 31))))), .unset, .unset, .unset, .unset, .unset, .unset, .unset, .unset, .unset, .unset, .unset, .unset, .unset, .unset, .unset, .unset, .unset, .unset, .unset, .unset, .unset, .unset, .unset, .unset, .unset, .unset, .unset, .unset, .unset, .unset, .unset, .unset, .unset, .unset, .unset, .unset, .unset, .unset, .unset, .unset, .unset, .unset, .unset, .unset] []) := by
    by_cases hc131 : (((cf.toUInt32 >>> ((2 : Int32) &&& 31).toUInt32).toInt32) &&& (1 : Int32)) = (0 : Int32)
    ·
      have K132 : own_K p e below G0 T107 (F1 210 [.val (.ref b2), .val (.ref epA), .val (.ref upA), .val (.int rdf), .val (.int wdf), .val (.int di), .val (.int ((1 : Int32) <<< ((cf &&& (3 : Int32)) &&& 31))), .unset, .unset, .unset, .unset, .unset, .unset, .unset, .unset, .unset, .unset, .unset, .unset, .unset, .unset, .unset, .unset, .unset, .unset, .unset, .unset, .unset, .unset, .unset, .unset, .unset, .unset, .unset, .unset, .unset, .unset, .unset, .unset, .unset, .unset, .unset, .unset, .unset, .unset, .unset, .unset, .unset, .unset, .unset, .unset] []) := by
        intro t kt
        refine K129 t ?_
        refine XS.ifYes X107.here hx rfl (pc0 := 202) (pc' := 210) rfl (hb hby at_202) rfl ((if0 _ _).trans (teq hc131).1) (by decide) (by decide) ?_
        show own_S p e below T107 (mkF m 210 _ []) _
        exact kt
      rw [if_pos hc131]
      exact K132
    ·
      have K133 : own_K p e below G0 T107 (F1 210 [.val (.ref b2), .val (.ref epA), .val (.ref upA), .val (.int rdf), .val (.int wdf), .val (.int di), .val (.int (-((1 : Int32) <<< ((cf &&& (3 : Int32)) &&& 31)))), .unset, .unset, .unset, .unset, .unset, .unset, .unset, .unset, .unset, .unset, .unset, .unset, .unset, .unset, .unset, .unset, .unset, .unset, .unset, .unset, .unset, .unset, .unset, .unset, .unset, .unset, .unset, .unset, .unset, .unset, .unset, .unset, .unset, .unset, .unset, .unset, .unset, .unset, .unset, .unset, .unset, .unset, .unset, .unset] []) := by
        intro t kt
        refine K129 t ?_
        refine XS.ifNo X107.here hx rfl (hb hby at_202) rfl ((if0 _ _).trans (feq hc131).1) ?_
        show own_S p e below T107 (mkF m 205 _ []) _
        refine XS.iload X107.here hx rfl (hb hby at_205) rfl ?_
        show own_S p e below T107 (mkF m 207 _ [(.int ((1 : Int32) <<< ((cf &&& (3 : Int32)) &&& 31)))]) _
        refine XS.ineg X107.here hx rfl (hb hby at_207) rfl ?_
        show own_S p e below T107 (mkF m 208 _ [(.int (-((1 : Int32) <<< ((cf &&& (3 : Int32)) &&& 31))))]) _
        refine XS.istore X107.here hx rfl (hb hby at_208) rfl (l' := (F1 0 [.val (.ref b2), .val (.ref epA), .val (.ref upA), .val (.int rdf), .val (.int wdf), .val (.int di), .val (.int (-((1 : Int32) <<< ((cf &&& (3 : Int32)) &&& 31)))), .unset, .unset, .unset, .unset, .unset, .unset, .unset, .unset, .unset, .unset, .unset, .unset, .unset, .unset, .unset, .unset, .unset, .unset, .unset, .unset, .unset, .unset, .unset, .unset, .unset, .unset, .unset, .unset, .unset, .unset, .unset, .unset, .unset, .unset, .unset, .unset, .unset, .unset, .unset, .unset, .unset, .unset, .unset, .unset] []).locals) rfl ?_
        show own_S p e below T107 (mkF m 210 _ []) _
        exact kt
      rw [if_neg hc131]
      exact K133
  obtain ⟨ai, h_ai⟩ : ∃ z, z = (if (((cf.toUInt32 >>> ((2 : Int32) &&& 31).toUInt32).toInt32) &&& (1 : Int32)) = (0 : Int32) then ((1 : Int32) <<< ((cf &&& (3 : Int32)) &&& 31)) else (-((1 : Int32) <<< ((cf &&& (3 : Int32)) &&& 31)))) := ⟨_, rfl⟩
  rw [← h_ai] at K130
  obtain ⟨Aq, hAq, bAq⟩ : ∃ A' : Int, ai.toInt * A' = 8 ∧ A'.natAbs ≤ 8 := by rw [h_ai]; exact own_A8 cf _
  have K134 : own_K p e below G0 T107 (F1 224 [.val (.ref b2), .val (.ref epA), .val (.ref upA), .val (.int rdf), .val (.int wdf), .val (.int di), .val (.int ai), .val (.int ((1 : Int32) <<< ((((cf.toUInt32 >>> ((3 : Int32) &&& 31).toUInt32).toInt32) &&& (3 : Int32)) &&& 31))), .unset, .unset, .unset, .unset, .unset, .unset, .unset, .unset, .unset, .unset, .unset, .unset, .unset, .unset, .unset, .unset, .unset, .unset, .unset, .unset, .unset, .unset, .unset, .unset, .unset, .unset, .unset, .unset, .unset, .unset, .unset, .unset, .unset, .unset, .unset, .unset, .unset, .unset, .unset, .unset, .unset, .unset, .unset] [(.int (((cf.toUInt32 >>> ((5 : Int32) &&& 31).toUInt32).toInt32) &&& (1 : Int32)))]) := by
    intro t kt
    refine K130 t ?_
    refine XS.iconst X107.here hx rfl (hb hby at_210) ?_
    show own_S p e below T107 (mkF m 211 _ [(.int (1 : Int32))]) _
    refine XS.iloadN X107.here hx rfl (hb hby at_211) rfl ?_
    show own_S p e below T107 (mkF m 212 _ [(.int cf), (.int (1 : Int32))]) _
    refine XS.iconst X107.here hx rfl (hb hby at_212) ?_
    show own_S p e below T107 (mkF m 213 _ [(.int (3 : Int32)), (.int cf), (.int (1 : Int32))]) _
    refine XS.iushr X107.here hx rfl (hb hby at_213) rfl ?_
    show own_S p e below T107 (mkF m 214 _ [(.int ((cf.toUInt32 >>> ((3 : Int32) &&& 31).toUInt32).toInt32)), (.int (1 : Int32))]) _
    refine XS.iconst X107.here hx rfl (hb hby at_214) ?_
    show own_S p e below T107 (mkF m 215 _ [(.int (3 : Int32)), (.int ((cf.toUInt32 >>> ((3 : Int32) &&& 31).toUInt32).toInt32)), (.int (1 : Int32))]) _
    refine XS.iand X107.here hx rfl (hb hby at_215) rfl ?_
    show own_S p e below T107 (mkF m 216 _ [(.int (((cf.toUInt32 >>> ((3 : Int32) &&& 31).toUInt32).toInt32) &&& (3 : Int32))), (.int (1 : Int32))]) _
    refine XS.ishl X107.here hx rfl (hb hby at_216) rfl ?_
    show own_S p e below T107 (mkF m 217 _ [(.int ((1 : Int32) <<< ((((cf.toUInt32 >>> ((3 : Int32) &&& 31).toUInt32).toInt32) &&& (3 : Int32)) &&& 31)))]) _
    refine XS.istore X107.here hx rfl (hb hby at_217) rfl (l' := (F1 0 [.val (.ref b2), .val (.ref epA), .val (.ref upA), .val (.int rdf), .val (.int wdf), .val (.int di), .val (.int ai), .val (.int ((1 : Int32) <<< ((((cf.toUInt32 >>> ((3 : Int32) &&& 31).toUInt32).toInt32) &&& (3 : Int32)) &&& 31))), .unset, .unset, .unset, .unset, .unset, .unset, .unset, .unset, .unset, .unset, .unset, .unset, .unset, .unset, .unset, .unset, .unset, .unset, .unset, .unset, .unset, .unset, .unset, .unset, .unset, .unset, .unset, .unset, .unset, .unset, .unset, .unset, .unset, .unset, .unset, .unset, .unset, .unset, .unset, .unset, .unset, .unset, .unset] []).locals) rfl ?_
    show own_S p e below T107 (mkF m 219 _ []) _
    refine XS.iloadN X107.here hx rfl (hb hby at_219) rfl ?_
    show own_S p e below T107 (mkF m 220 _ [(.int cf)]) _
    refine XS.iconst X107.here hx rfl (hb hby at_220) ?_
    show own_S p e below T107 (mkF m 221 _ [(.int (5 : Int32)), (.int cf)]) _
    refine XS.iushr X107.here hx rfl (hb hby at_221) rfl ?_
    show own_S p e below T107 (mkF m 222 _ [(.int ((cf.toUInt32 >>> ((5 : Int32) &&& 31).toUInt32).toInt32))]) _
    refine XS.iconst X107.here hx rfl (hb hby at_222) ?_
    show own_S p e below T107 (mkF m 223 _ [(.int (1 : Int32)), (.int ((cf.toUInt32 >>> ((5 : Int32) &&& 31).toUInt32).toInt32))]) _
    refine XS.iand X107.here hx rfl (hb hby at_223) rfl ?_
    show own_S p e below T107 (mkF m 224 _ [(.int (((cf.toUInt32 >>> ((5 : Int32) &&& 31).toUInt32).toInt32) &&& (1 : Int32)))]) _
    exact kt
  have K135 : own_K p e below G0 T107 (F1 232 [.val (.ref b2), .val (.ref epA), .val (.ref upA), .val (.int rdf), .val (.int wdf), .val (.int di), .val (.int ai), .val (.int (if (((cf.toUInt32 >>> ((5 : Int32) &&& 31).toUInt32).toInt32) &&& (1 : Int32)) = (0 : Int32) then ((1 : Int32) <<< ((((cf.toUInt32 >>> ((3 : Int32) &&& 31).toUInt32).toInt32) &&& (3 : Int32)) &&& 31)) else (-((1 : Int32) <<< ((((cf.toUInt32 >>> ((3 : Int32) &&& 31).toUInt32).toInt32) &&& (3 : Int32)) &&& 31))))), .unset, .unset, .unset, .unset, .unset, .unset, .unset, .unset, .unset, .unset, .unset, .unset, .unset, .unset, .unset, .unset, .unset, .unset, .unset, .unset, .unset, .unset, .unset, .unset, .unset, .unset, .unset, .unset, .unset, .unset, .unset, .unset, .unset, .unset, .unset, .unset, .unset, .unset, .unset, .unset, .unset, .unset, .unset] []) := by
    by_cases hc136 : (((cf.toUInt32 >>> ((5 : Int32) &&& 31).toUInt32).toInt32) &&& (1 : Int32)) = (0 : Int32)
    ·
      have K137 : own_K p e below G0 T107 (F1 232 [.val (.ref b2), .val (.ref epA), .val (.ref upA), .val (.int rdf), .val (.int wdf), .val (.int di), .val (.int ai), .val (.int ((1 : Int32) <<< ((((cf.toUInt32 >>> ((3 : Int32) &&& 31).toUInt32).toInt32) &&& (3 : Int32)) &&& 31))), .unset, .unset, .unset, .unset, .unset, .unset, .unset, .unset, .unset, .unset, .unset, .unset, .unset, .unset, .unset, .unset, .unset, .unset, .unset, .unset, .unset, .unset, .unset, .unset, .unset, .unset, .unset, .unset, .unset, .unset, .unset, .unset, .unset, .unset, .unset, .unset, .unset, .unset, .unset, .unset, .unset, .unset, .unset] []) := by
        intro t kt
        refine K134 t ?_
        refine XS.ifYes X107.here hx rfl (pc0 := 224) (pc' := 232) rfl (hb hby at_224) rfl ((if0 _ _).trans (teq hc136).1) (by decide) (by decide) ?_
        show own_S p e below T107 (mkF m 232 _ []) _
        exact kt
      rw [if_pos hc136]
      exact K137
    ·
      have K138 : own_K p e below G0 T107 (F1 232 [.val (.ref b2), .val (.ref epA), .val (.ref upA), .val (.int rdf), .val (.int wdf), .val (.int di), .val (.int ai), .val (.int (-((1 : Int32) <<< ((((cf.toUInt32 >>> ((3 : Int32) &&& 31).toUInt32).toInt32) &&& (3 : Int32)) &&& 31)))), .unset, .unset, .unset, .unset, .unset, .unset, .unset, .unset, .unset, .unset, .unset, .unset, .unset, .unset, .unset, .unset, .unset, .unset, .unset, .unset, .unset, .unset, .unset, .unset, .unset, .unset, .unset, .unset, .unset, .unset, .unset, .unset, .unset, .unset, .unset, .unset, .unset, .unset, .unset, .unset, .unset, .unset, .unset] []) := by
        intro t kt
        refine K134 t ?_
        refine XS.ifNo X107.here hx rfl (hb hby at_224) rfl ((if0 _ _).trans (feq hc136).1) ?_
        show own_S p e below T107 (mkF m 227 _ []) _
        refine XS.iload X107.here hx rfl (hb hby at_227) rfl ?_
        show own_S p e below T107 (mkF m 229 _ [(.int ((1 : Int32) <<< ((((cf.toUInt32 >>> ((3 : Int32) &&& 31).toUInt32).toInt32) &&& (3 : Int32)) &&& 31)))]) _
        refine XS.ineg X107.here hx rfl (hb hby at_229) rfl ?_
        show own_S p e below T107 (mkF m 230 _ [(.int (-((1 : Int32) <<< ((((cf.toUInt32 >>> ((3 : Int32) &&& 31).toUInt32).toInt32) &&& (3 : Int32)) &&& 31))))]) _
        refine XS.istore X107.here hx rfl (hb hby at_230) rfl (l' := (F1 0 [.val (.ref b2), .val (.ref epA), .val (.ref upA), .val (.int rdf), .val (.int wdf), .val (.int di), .val (.int ai), .val (.int (-((1 : Int32) <<< ((((cf.toUInt32 >>> ((3 : Int32) &&& 31).toUInt32).toInt32) &&& (3 : Int32)) &&& 31)))), .unset, .unset, .unset, .unset, .unset, .unset, .unset, .unset, .unset, .unset, .unset, .unset, .unset, .unset, .unset, .unset, .unset, .unset, .unset, .unset, .unset, .unset, .unset, .unset, .unset, .unset, .unset, .unset, .unset, .unset, .unset, .unset, .unset, .unset, .unset, .unset, .unset, .unset, .unset, .unset, .unset, .unset, .unset] []).locals) rfl ?_
        show own_S p e below T107 (mkF m 232 _ []) _
        exact kt
      rw [if_neg hc136]
      exact K138
  obtain ⟨ci, h_ci⟩ : ∃ z, z = (if (((cf.toUInt32 >>> ((5 : Int32) &&& 31).toUInt32).toInt32) &&& (1 : Int32)) = (0 : Int32) then ((1 : Int32) <<< ((((cf.toUInt32 >>> ((3 : Int32) &&& 31).toUInt32).toInt32) &&& (3 : Int32)) &&& 31)) else (-((1 : Int32) <<< ((((cf.toUInt32 >>> ((3 : Int32) &&& 31).toUInt32).toInt32) &&& (3 : Int32)) &&& 31)))) := ⟨_, rfl⟩
  rw [← h_ci] at K135
  obtain ⟨Cq, hCq, bCq⟩ : ∃ A' : Int, ci.toInt * A' = 8 ∧ A'.natAbs ≤ 8 := by rw [h_ci]; exact own_A8 ((cf.toUInt32 >>> ((3 : Int32) &&& 31).toUInt32).toInt32) _
  have K139 : own_K p e below G0 T107 (F1 244 [.val (.ref b2), .val (.ref epA), .val (.ref upA), .val (.int rdf), .val (.int wdf), .val (.int di), .val (.int ai), .val (.int ci), .val (.int ((((cf.toUInt32 >>> ((6 : Int32) &&& 31).toUInt32).toInt32) &&& (15 : Int32)) - (8 : Int32))), .unset, .unset, .unset, .unset, .unset, .unset, .unset, .unset, .unset, .unset, .unset, .unset, .unset, .unset, .unset, .unset, .unset, .unset, .unset, .unset, .unset, .unset, .unset, .unset, .unset, .unset, .unset, .unset, .unset, .unset, .unset, .unset, .unset, .unset, .unset, .unset, .unset, .unset, .unset, .unset, .unset, .unset] []) := by
    intro t kt
    refine K135 t ?_
    refine XS.iloadN X107.here hx rfl (hb hby at_232) rfl ?_
    show own_S p e below T107 (mkF m 233 _ [(.int cf)]) _
    refine XS.bipush X107.here hx rfl (hb hby at_233) ?_
    show own_S p e below T107 (mkF m 235 _ [(.int (6 : Int32)), (.int cf)]) _
    refine XS.iushr X107.here hx rfl (hb hby at_235) rfl ?_
    show own_S p e below T107 (mkF m 236 _ [(.int ((cf.toUInt32 >>> ((6 : Int32) &&& 31).toUInt32).toInt32))]) _
    refine XS.bipush X107.here hx rfl (hb hby at_236) ?_
    show own_S p e below T107 (mkF m 238 _ [(.int (15 : Int32)), (.int ((cf.toUInt32 >>> ((6 : Int32) &&& 31).toUInt32).toInt32))]) _
    refine XS.iand X107.here hx rfl (hb hby at_238) rfl ?_
    show own_S p e below T107 (mkF m 239 _ [(.int (((cf.toUInt32 >>> ((6 : Int32) &&& 31).toUInt32).toInt32) &&& (15 : Int32)))]) _
    refine XS.bipush X107.here hx rfl (hb hby at_239) ?_
    show own_S p e below T107 (mkF m 241 _ [(.int (8 : Int32)), (.int (((cf.toUInt32 >>> ((6 : Int32) &&& 31).toUInt32).toInt32) &&& (15 : Int32)))]) _
    refine XS.isub X107.here hx rfl (hb hby at_241) rfl ?_
    show own_S p e below T107 (mkF m 242 _ [(.int ((((cf.toUInt32 >>> ((6 : Int32) &&& 31).toUInt32).toInt32) &&& (15 : Int32)) - (8 : Int32)))]) _
    refine XS.istore X107.here hx rfl (hb hby at_242) rfl (l' := (F1 0 [.val (.ref b2), .val (.ref epA), .val (.ref upA), .val (.int rdf), .val (.int wdf), .val (.int di), .val (.int ai), .val (.int ci), .val (.int ((((cf.toUInt32 >>> ((6 : Int32) &&& 31).toUInt32).toInt32) &&& (15 : Int32)) - (8 : Int32))), .unset, .unset, .unset, .unset, .unset, .unset, .unset, .unset, .unset, .unset, .unset, .unset, .unset, .unset, .unset, .unset, .unset, .unset, .unset, .unset, .unset, .unset, .unset, .unset, .unset, .unset, .unset, .unset, .unset, .unset, .unset, .unset, .unset, .unset, .unset, .unset, .unset, .unset, .unset, .unset, .unset, .unset] []).locals) rfl ?_
    show own_S p e below T107 (mkF m 244 _ []) _
    exact kt
  obtain ⟨bi, h_bi⟩ : ∃ z, z = ((((cf.toUInt32 >>> ((6 : Int32) &&& 31).toUInt32).toInt32) &&& (15 : Int32)) - (8 : Int32)) := ⟨_, rfl⟩
  rw [← h_bi] at K139
  have b_bi : bi.toInt.natAbs ≤ 8 := by rw [h_bi]; exact own_B8 _
  have K140 : own_K p e below G0 T107 (F1 256 [.val (.ref b2), .val (.ref epA), .val (.ref upA), .val (.int rdf), .val (.int wdf), .val (.int di), .val (.int ai), .val (.int ci), .val (.int bi), .val (.int ((((cf.toUInt32 >>> ((10 : Int32) &&& 31).toUInt32).toInt32) &&& (15 : Int32)) - (8 : Int32))), .unset, .unset, .unset, .unset, .unset, .unset, .unset, .unset, .unset, .unset, .unset, .unset, .unset, .unset, .unset, .unset, .unset, .unset, .unset, .unset, .unset, .unset, .unset, .unset, .unset, .unset, .unset, .unset, .unset, .unset, .unset, .unset, .unset, .unset, .unset, .unset, .unset, .unset, .unset, .unset, .unset] []) := by
    intro t kt
    refine K139 t ?_
    refine XS.iloadN X107.here hx rfl (hb hby at_244) rfl ?_
    show own_S p e below T107 (mkF m 245 _ [(.int cf)]) _
    refine XS.bipush X107.here hx rfl (hb hby at_245) ?_
    show own_S p e below T107 (mkF m 247 _ [(.int (10 : Int32)), (.int cf)]) _
    refine XS.iushr X107.here hx rfl (hb hby at_247) rfl ?_
    show own_S p e below T107 (mkF m 248 _ [(.int ((cf.toUInt32 >>> ((10 : Int32) &&& 31).toUInt32).toInt32))]) _
    refine XS.bipush X107.here hx rfl (hb hby at_248) ?_
    show own_S p e below T107 (mkF m 250 _ [(.int (15 : Int32)), (.int ((cf.toUInt32 >>> ((10 : Int32) &&& 31).toUInt32).toInt32))]) _
    refine XS.iand X107.here hx rfl (hb hby at_250) rfl ?_
    show own_S p e below T107 (mkF m 251 _ [(.int (((cf.toUInt32 >>> ((10 : Int32) &&& 31).toUInt32).toInt32) &&& (15 : Int32)))]) _
    refine XS.bipush X107.here hx rfl (hb hby at_251) ?_
    show own_S p e below T107 (mkF m 253 _ [(.int (8 : Int32)), (.int (((cf.toUInt32 >>> ((10 : Int32) &&& 31).toUInt32).toInt32) &&& (15 : Int32)))]) _
    refine XS.isub X107.here hx rfl (hb hby at_253) rfl ?_
    show own_S p e below T107 (mkF m 254 _ [(.int ((((cf.toUInt32 >>> ((10 : Int32) &&& 31).toUInt32).toInt32) &&& (15 : Int32)) - (8 : Int32)))]) _
    refine XS.istore X107.here hx rfl (hb hby at_254) rfl (l' := (F1 0 [.val (.ref b2), .val (.ref epA), .val (.ref upA), .val (.int rdf), .val (.int wdf), .val (.int di), .val (.int ai), .val (.int ci), .val (.int bi), .val (.int ((((cf.toUInt32 >>> ((10 : Int32) &&& 31).toUInt32).toInt32) &&& (15 : Int32)) - (8 : Int32))), .unset, .unset, .unset, .unset, .unset, .unset, .unset, .unset, .unset, .unset, .unset, .unset, .unset, .unset, .unset, .unset, .unset, .unset, .unset, .unset, .unset, .unset, .unset, .unset, .unset, .unset, .unset, .unset, .unset, .unset, .unset, .unset, .unset, .unset, .unset, .unset, .unset, .unset, .unset, .unset, .unset] []).locals) rfl ?_
    show own_S p e below T107 (mkF m 256 _ []) _
    exact kt
  obtain ⟨mi, h_mi⟩ : ∃ z, z = ((((cf.toUInt32 >>> ((10 : Int32) &&& 31).toUInt32).toInt32) &&& (15 : Int32)) - (8 : Int32)) := ⟨_, rfl⟩
  rw [← h_mi] at K140
  have b_mi : mi.toInt.natAbs ≤ 8 := by rw [h_mi]; exact own_B8 _
  have K141 : own_K p e below G0 T107 (F1 266 [.val (.ref b2), .val (.ref epA), .val (.ref upA), .val (.int rdf), .val (.int wdf), .val (.int di), .val (.int ai), .val (.int ci), .val (.int bi), .val (.int mi), .val (.int ((ex &&& (15 : Int32)) - (8 : Int32))), .unset, .unset, .unset, .unset, .unset, .unset, .unset, .unset, .unset, .unset, .unset, .unset, .unset, .unset, .unset, .unset, .unset, .unset, .unset, .unset, .unset, .unset, .unset, .unset, .unset, .unset, .unset, .unset, .unset, .unset, .unset, .unset, .unset, .unset, .unset, .unset, .unset, .unset, .unset, .unset] []) := by
    intro t kt
    refine K140 t ?_
    refine XS.iload X107.here hx rfl (hb hby at_256) rfl ?_
    show own_S p e below T107 (mkF m 258 _ [(.int ex)]) _
    refine XS.bipush X107.here hx rfl (hb hby at_258) ?_
    show own_S p e below T107 (mkF m 260 _ [(.int (15 : Int32)), (.int ex)]) _
    refine XS.iand X107.here hx rfl (hb hby at_260) rfl ?_
    show own_S p e below T107 (mkF m 261 _ [(.int (ex &&& (15 : Int32)))]) _
    refine XS.bipush X107.here hx rfl (hb hby at_261) ?_
    show own_S p e below T107 (mkF m 263 _ [(.int (8 : Int32)), (.int (ex &&& (15 : Int32)))]) _
    refine XS.isub X107.here hx rfl (hb hby at_263) rfl ?_
    show own_S p e below T107 (mkF m 264 _ [(.int ((ex &&& (15 : Int32)) - (8 : Int32)))]) _
    refine XS.istore X107.here hx rfl (hb hby at_264) rfl (l' := (F1 0 [.val (.ref b2), .val (.ref epA), .val (.ref upA), .val (.int rdf), .val (.int wdf), .val (.int di), .val (.int ai), .val (.int ci), .val (.int bi), .val (.int mi), .val (.int ((ex &&& (15 : Int32)) - (8 : Int32))), .unset, .unset, .unset, .unset, .unset, .unset, .unset, .unset, .unset, .unset, .unset, .unset, .unset, .unset, .unset, .unset, .unset, .unset, .unset, .unset, .unset, .unset, .unset, .unset, .unset, .unset, .unset, .unset, .unset, .unset, .unset, .unset, .unset, .unset, .unset, .unset, .unset, .unset, .unset, .unset] []).locals) rfl ?_
    show own_S p e below T107 (mkF m 266 _ []) _
    exact kt
  obtain ⟨m2i, h_m2i⟩ : ∃ z, z = ((ex &&& (15 : Int32)) - (8 : Int32)) := ⟨_, rfl⟩
  rw [← h_m2i] at K141
  have K142 : own_K p e below G0 T107 (F1 278 [.val (.ref b2), .val (.ref epA), .val (.ref upA), .val (.int rdf), .val (.int wdf), .val (.int di), .val (.int ai), .val (.int ci), .val (.int bi), .val (.int mi), .val (.int m2i), .val (.int ((((ex.toUInt32 >>> ((4 : Int32) &&& 31).toUInt32).toInt32) &&& (15 : Int32)) - (8 : Int32))), .unset, .unset, .unset, .unset, .unset, .unset, .unset, .unset, .unset, .unset, .unset, .unset, .unset, .unset, .unset, .unset, .unset, .unset, .unset, .unset, .unset, .unset, .unset, .unset, .unset, .unset, .unset, .unset, .unset, .unset, .unset, .unset, .unset, .unset, .unset, .unset, .unset, .unset, .unset] []) := by
    intro t kt
    refine K141 t ?_
    refine XS.iload X107.here hx rfl (hb hby at_266) rfl ?_
    show own_S p e below T107 (mkF m 268 _ [(.int ex)]) _
    refine XS.iconst X107.here hx rfl (hb hby at_268) ?_
    show own_S p e below T107 (mkF m 269 _ [(.int (4 : Int32)), (.int ex)]) _
    refine XS.iushr X107.here hx rfl (hb hby at_269) rfl ?_
    show own_S p e below T107 (mkF m 270 _ [(.int ((ex.toUInt32 >>> ((4 : Int32) &&& 31).toUInt32).toInt32))]) _
    refine XS.bipush X107.here hx rfl (hb hby at_270) ?_
    show own_S p e below T107 (mkF m 272 _ [(.int (15 : Int32)), (.int ((ex.toUInt32 >>> ((4 : Int32) &&& 31).toUInt32).toInt32))]) _
    refine XS.iand X107.here hx rfl (hb hby at_272) rfl ?_
    show own_S p e below T107 (mkF m 273 _ [(.int (((ex.toUInt32 >>> ((4 : Int32) &&& 31).toUInt32).toInt32) &&& (15 : Int32)))]) _
    refine XS.bipush X107.here hx rfl (hb hby at_273) ?_
    show own_S p e below T107 (mkF m 275 _ [(.int (8 : Int32)), (.int (((ex.toUInt32 >>> ((4 : Int32) &&& 31).toUInt32).toInt32) &&& (15 : Int32)))]) _
    refine XS.isub X107.here hx rfl (hb hby at_275) rfl ?_
    show own_S p e below T107 (mkF m 276 _ [(.int ((((ex.toUInt32 >>> ((4 : Int32) &&& 31).toUInt32).toInt32) &&& (15 : Int32)) - (8 : Int32)))]) _
    refine XS.istore X107.here hx rfl (hb hby at_276) rfl (l' := (F1 0 [.val (.ref b2), .val (.ref epA), .val (.ref upA), .val (.int rdf), .val (.int wdf), .val (.int di), .val (.int ai), .val (.int ci), .val (.int bi), .val (.int mi), .val (.int m2i), .val (.int ((((ex.toUInt32 >>> ((4 : Int32) &&& 31).toUInt32).toInt32) &&& (15 : Int32)) - (8 : Int32))), .unset, .unset, .unset, .unset, .unset, .unset, .unset, .unset, .unset, .unset, .unset, .unset, .unset, .unset, .unset, .unset, .unset, .unset, .unset, .unset, .unset, .unset, .unset, .unset, .unset, .unset, .unset, .unset, .unset, .unset, .unset, .unset, .unset, .unset, .unset, .unset, .unset, .unset, .unset] []).locals) rfl ?_
    show own_S p e below T107 (mkF m 278 _ []) _
    exact kt
  obtain ⟨m3i, h_m3i⟩ : ∃ z, z = ((((ex.toUInt32 >>> ((4 : Int32) &&& 31).toUInt32).toInt32) &&& (15 : Int32)) - (8 : Int32)) := ⟨_, rfl⟩
  rw [← h_m3i] at K142
  have K143 : own_K p e below G0 T107 (F1 281 [.val (.ref b2), .val (.ref epA), .val (.ref upA), .val (.int rdf), .val (.int wdf), .val (.int di), .val (.int ai), .val (.int ci), .val (.int bi), .val (.int mi), .val (.int m2i), .val (.int m3i), .unset, .unset, .unset, .unset, .unset, .unset, .unset, .unset, .unset, .unset, .unset, .unset, .unset, .unset, .unset, .unset, .unset, .unset, .unset, .unset, .unset, .unset, .unset, .unset, .unset, .unset, .unset, .unset, .unset, .unset, .unset, .unset, .unset, .unset, .unset, .unset, .unset, .unset, .unset] [(.int (0 : Int32)), (.ref epA)]) := by
    intro t kt
    refine K142 t ?_
    refine XS.aload X107.here hx rfl (hb hby at_278) rfl rfl ?_
    show own_S p e below T107 (mkF m 280 _ [(.ref epA)]) _
    refine XS.iconst X107.here hx rfl (hb hby at_280) ?_
    show own_S p e below T107 (mkF m 281 _ [(.int (0 : Int32)), (.ref epA)]) _
    exact kt
  obtain ⟨cl144, Ar144, qq144, S144, M144, H144, GG144⟩ := id V_epA
  have hin144 : ¬ ((0 : Int32) < 0 ∨ cl144.slots.size ≤ ((0 : Int32)).toNatClampNeg) := inb_of S144 ⟨by decide, by decide⟩
  have hat144 : cl144.slots[((0 : Int32)).toNatClampNeg]? = some (.int ea) := Has.at H144 hin144 rfl
  have K145 : own_K p e below G0 T107 (F1 287 [.val (.ref b2), .val (.ref epA), .val (.ref upA), .val (.int rdf), .val (.int wdf), .val (.int di), .val (.int ai), .val (.int ci), .val (.int bi), .val (.int mi), .val (.int m2i), .val (.int m3i), .val (.int ea), .unset, .unset, .unset, .unset, .unset, .unset, .unset, .unset, .unset, .unset, .unset, .unset, .unset, .unset, .unset, .unset, .unset, .unset, .unset, .unset, .unset, .unset, .unset, .unset, .unset, .unset, .unset, .unset, .unset, .unset, .unset, .unset, .unset, .unset, .unset, .unset, .unset, .unset] [(.int (1 : Int32)), (.ref epA)]) := by
    intro t kt
    refine K143 t ?_
    refine X107.iaload hx (j := (0 : Int32)) (v := (.int ea)) (by rw [e107]; exact (Ar144).1) (State.isArrayOf_alike hZ.alike (Ar144).2.1) (Ar144).2.2 hin144 hat144 (g := (F1 281 [.val (.ref b2), .val (.ref epA), .val (.ref upA), .val (.int rdf), .val (.int wdf), .val (.int di), .val (.int ai), .val (.int ci), .val (.int bi), .val (.int mi), .val (.int m2i), .val (.int m3i), .unset, .unset, .unset, .unset, .unset, .unset, .unset, .unset, .unset, .unset, .unset, .unset, .unset, .unset, .unset, .unset, .unset, .unset, .unset, .unset, .unset, .unset, .unset, .unset, .unset, .unset, .unset, .unset, .unset, .unset, .unset, .unset, .unset, .unset, .unset, .unset, .unset, .unset, .unset] [(.int (0 : Int32)), (.ref epA)])) rfl rfl (hb hby at_281) _ ?_
    show own_S p e below T107 (mkF m 282 _ [(.int ea)]) _
    refine XS.istore X107.here hx rfl (hb hby at_282) rfl (l' := (F1 0 [.val (.ref b2), .val (.ref epA), .val (.ref upA), .val (.int rdf), .val (.int wdf), .val (.int di), .val (.int ai), .val (.int ci), .val (.int bi), .val (.int mi), .val (.int m2i), .val (.int m3i), .val (.int ea), .unset, .unset, .unset, .unset, .unset, .unset, .unset, .unset, .unset, .unset, .unset, .unset, .unset, .unset, .unset, .unset, .unset, .unset, .unset, .unset, .unset, .unset, .unset, .unset, .unset, .unset, .unset, .unset, .unset, .unset, .unset, .unset, .unset, .unset, .unset, .unset, .unset, .unset] []).locals) rfl ?_
    show own_S p e below T107 (mkF m 284 _ []) _
    refine XS.aload X107.here hx rfl (hb hby at_284) rfl rfl ?_
    show own_S p e below T107 (mkF m 286 _ [(.ref epA)]) _
    refine XS.iconst X107.here hx rfl (hb hby at_286) ?_
    show own_S p e below T107 (mkF m 287 _ [(.int (1 : Int32)), (.ref epA)]) _
    exact kt
  obtain ⟨cl146, Ar146, qq146, S146, M146, H146, GG146⟩ := id V_epA
  have hin146 : ¬ ((1 : Int32) < 0 ∨ cl146.slots.size ≤ ((1 : Int32)).toNatClampNeg) := inb_of S146 ⟨by decide, by decide⟩
  have hat146 : cl146.slots[((1 : Int32)).toNatClampNeg]? = some (.int eb) := Has.at H146 hin146 rfl
  have K147 : own_K p e below G0 T107 (F1 293 [.val (.ref b2), .val (.ref epA), .val (.ref upA), .val (.int rdf), .val (.int wdf), .val (.int di), .val (.int ai), .val (.int ci), .val (.int bi), .val (.int mi), .val (.int m2i), .val (.int m3i), .val (.int ea), .val (.int eb), .unset, .unset, .unset, .unset, .unset, .unset, .unset, .unset, .unset, .unset, .unset, .unset, .unset, .unset, .unset, .unset, .unset, .unset, .unset, .unset, .unset, .unset, .unset, .unset, .unset, .unset, .unset, .unset, .unset, .unset, .unset, .unset, .unset, .unset, .unset, .unset, .unset] [(.int (2 : Int32)), (.ref epA)]) := by
    intro t kt
    refine K145 t ?_
    refine X107.iaload hx (j := (1 : Int32)) (v := (.int eb)) (by rw [e107]; exact (Ar146).1) (State.isArrayOf_alike hZ.alike (Ar146).2.1) (Ar146).2.2 hin146 hat146 (g := (F1 287 [.val (.ref b2), .val (.ref epA), .val (.ref upA), .val (.int rdf), .val (.int wdf), .val (.int di), .val (.int ai), .val (.int ci), .val (.int bi), .val (.int mi), .val (.int m2i), .val (.int m3i), .val (.int ea), .unset, .unset, .unset, .unset, .unset, .unset, .unset, .unset, .unset, .unset, .unset, .unset, .unset, .unset, .unset, .unset, .unset, .unset, .unset, .unset, .unset, .unset, .unset, .unset, .unset, .unset, .unset, .unset, .unset, .unset, .unset, .unset, .unset, .unset, .unset, .unset, .unset, .unset] [(.int (1 : Int32)), (.ref epA)])) rfl rfl (hb hby at_287) _ ?_
    show own_S p e below T107 (mkF m 288 _ [(.int eb)]) _
    refine XS.istore X107.here hx rfl (hb hby at_288) rfl (l' := (F1 0 [.val (.ref b2), .val (.ref epA), .val (.ref upA), .val (.int rdf), .val (.int wdf), .val (.int di), .val (.int ai), .val (.int ci), .val (.int bi), .val (.int mi), .val (.int m2i), .val (.int m3i), .val (.int ea), .val (.int eb), .unset, .unset, .unset, .unset, .unset, .unset, .unset, .unset, .unset, .unset, .unset, .unset, .unset, .unset, .unset, .unset, .unset, .unset, .unset, .unset, .unset, .unset, .unset, .unset, .unset, .unset, .unset, .unset, .unset, .unset, .unset, .unset, .unset, .unset, .unset, .unset, .unset] []).locals) rfl ?_
    show own_S p e below T107 (mkF m 290 _ []) _
    refine XS.aload X107.here hx rfl (hb hby at_290) rfl rfl ?_
    show own_S p e below T107 (mkF m 292 _ [(.ref epA)]) _
    refine XS.iconst X107.here hx rfl (hb hby at_292) ?_
    show own_S p e below T107 (mkF m 293 _ [(.int (2 : Int32)), (.ref epA)]) _
    exact kt
  obtain ⟨cl148, Ar148, qq148, S148, M148, H148, GG148⟩ := id V_epA
  have hin148 : ¬ ((2 : Int32) < 0 ∨ cl148.slots.size ≤ ((2 : Int32)).toNatClampNeg) := inb_of S148 ⟨by decide, by decide⟩
  have hat148 : cl148.slots[((2 : Int32)).toNatClampNeg]? = some (.int ec) := Has.at H148 hin148 rfl
  have K149 : own_K p e below G0 T107 (F1 299 [.val (.ref b2), .val (.ref epA), .val (.ref upA), .val (.int rdf), .val (.int wdf), .val (.int di), .val (.int ai), .val (.int ci), .val (.int bi), .val (.int mi), .val (.int m2i), .val (.int m3i), .val (.int ea), .val (.int eb), .val (.int ec), .unset, .unset, .unset, .unset, .unset, .unset, .unset, .unset, .unset, .unset, .unset, .unset, .unset, .unset, .unset, .unset, .unset, .unset, .unset, .unset, .unset, .unset, .unset, .unset, .unset, .unset, .unset, .unset, .unset, .unset, .unset, .unset, .unset, .unset, .unset, .unset] [(.int (0 : Int32)), (.ref upA)]) := by
    intro t kt
    refine K147 t ?_
    refine X107.iaload hx (j := (2 : Int32)) (v := (.int ec)) (by rw [e107]; exact (Ar148).1) (State.isArrayOf_alike hZ.alike (Ar148).2.1) (Ar148).2.2 hin148 hat148 (g := (F1 293 [.val (.ref b2), .val (.ref epA), .val (.ref upA), .val (.int rdf), .val (.int wdf), .val (.int di), .val (.int ai), .val (.int ci), .val (.int bi), .val (.int mi), .val (.int m2i), .val (.int m3i), .val (.int ea), .val (.int eb), .unset, .unset, .unset, .unset, .unset, .unset, .unset, .unset, .unset, .unset, .unset, .unset, .unset, .unset, .unset, .unset, .unset, .unset, .unset, .unset, .unset, .unset, .unset, .unset, .unset, .unset, .unset, .unset, .unset, .unset, .unset, .unset, .unset, .unset, .unset, .unset, .unset] [(.int (2 : Int32)), (.ref epA)])) rfl rfl (hb hby at_293) _ ?_
    show own_S p e below T107 (mkF m 294 _ [(.int ec)]) _
    refine XS.istore X107.here hx rfl (hb hby at_294) rfl (l' := (F1 0 [.val (.ref b2), .val (.ref epA), .val (.ref upA), .val (.int rdf), .val (.int wdf), .val (.int di), .val (.int ai), .val (.int ci), .val (.int bi), .val (.int mi), .val (.int m2i), .val (.int m3i), .val (.int ea), .val (.int eb), .val (.int ec), .unset, .unset, .unset, .unset, .unset, .unset, .unset, .unset, .unset, .unset, .unset, .unset, .unset, .unset, .unset, .unset, .unset, .unset, .unset, .unset, .unset, .unset, .unset, .unset, .unset, .unset, .unset, .unset, .unset, .unset, .unset, .unset, .unset, .unset, .unset, .unset] []).locals) rfl ?_
    show own_S p e below T107 (mkF m 296 _ []) _
    refine XS.aload X107.here hx rfl (hb hby at_296) rfl rfl ?_
    show own_S p e below T107 (mkF m 298 _ [(.ref upA)]) _
    refine XS.iconst X107.here hx rfl (hb hby at_298) ?_
    show own_S p e below T107 (mkF m 299 _ [(.int (0 : Int32)), (.ref upA)]) _
    exact kt
  obtain ⟨cl150, Ar150, qq150, S150, M150, H150, GG150⟩ := id V_upA
  have hin150 : ¬ ((0 : Int32) < 0 ∨ cl150.slots.size ≤ ((0 : Int32)).toNatClampNeg) := inb_of S150 ⟨by decide, by decide⟩
  have hat150 : cl150.slots[((0 : Int32)).toNatClampNeg]? = some (.int g0) := Has.at H150 hin150 rfl
  have K151 : own_K p e below G0 T107 (F1 305 [.val (.ref b2), .val (.ref epA), .val (.ref upA), .val (.int rdf), .val (.int wdf), .val (.int di), .val (.int ai), .val (.int ci), .val (.int bi), .val (.int mi), .val (.int m2i), .val (.int m3i), .val (.int ea), .val (.int eb), .val (.int ec), .val (.int g0), .unset, .unset, .unset, .unset, .unset, .unset, .unset, .unset, .unset, .unset, .unset, .unset, .unset, .unset, .unset, .unset, .unset, .unset, .unset, .unset, .unset, .unset, .unset, .unset, .unset, .unset, .unset, .unset, .unset, .unset, .unset, .unset, .unset, .unset, .unset] [(.int (1 : Int32)), (.ref upA)]) := by
    intro t kt
    refine K149 t ?_
    refine X107.iaload hx (j := (0 : Int32)) (v := (.int g0)) (by rw [e107]; exact (Ar150).1) (State.isArrayOf_alike hZ.alike (Ar150).2.1) (Ar150).2.2 hin150 hat150 (g := (F1 299 [.val (.ref b2), .val (.ref epA), .val (.ref upA), .val (.int rdf), .val (.int wdf), .val (.int di), .val (.int ai), .val (.int ci), .val (.int bi), .val (.int mi), .val (.int m2i), .val (.int m3i), .val (.int ea), .val (.int eb), .val (.int ec), .unset, .unset, .unset, .unset, .unset, .unset, .unset, .unset, .unset, .unset, .unset, .unset, .unset, .unset, .unset, .unset, .unset, .unset, .unset, .unset, .unset, .unset, .unset, .unset, .unset, .unset, .unset, .unset, .unset, .unset, .unset, .unset, .unset, .unset, .unset, .unset] [(.int (0 : Int32)), (.ref upA)])) rfl rfl (hb hby at_299) _ ?_
    show own_S p e below T107 (mkF m 300 _ [(.int g0)]) _
    refine XS.istore X107.here hx rfl (hb hby at_300) rfl (l' := (F1 0 [.val (.ref b2), .val (.ref epA), .val (.ref upA), .val (.int rdf), .val (.int wdf), .val (.int di), .val (.int ai), .val (.int ci), .val (.int bi), .val (.int mi), .val (.int m2i), .val (.int m3i), .val (.int ea), .val (.int eb), .val (.int ec), .val (.int g0), .unset, .unset, .unset, .unset, .unset, .unset, .unset, .unset, .unset, .unset, .unset, .unset, .unset, .unset, .unset, .unset, .unset, .unset, .unset, .unset, .unset, .unset, .unset, .unset, .unset, .unset, .unset, .unset, .unset, .unset, .unset, .unset, .unset, .unset, .unset] []).locals) rfl ?_
    show own_S p e below T107 (mkF m 302 _ []) _
    refine XS.aload X107.here hx rfl (hb hby at_302) rfl rfl ?_
    show own_S p e below T107 (mkF m 304 _ [(.ref upA)]) _
    refine XS.iconst X107.here hx rfl (hb hby at_304) ?_
    show own_S p e below T107 (mkF m 305 _ [(.int (1 : Int32)), (.ref upA)]) _
    exact kt
  obtain ⟨cl152, Ar152, qq152, S152, M152, H152, GG152⟩ := id V_upA
  have hin152 : ¬ ((1 : Int32) < 0 ∨ cl152.slots.size ≤ ((1 : Int32)).toNatClampNeg) := inb_of S152 ⟨by decide, by decide⟩
  have hat152 : cl152.slots[((1 : Int32)).toNatClampNeg]? = some (.int g1) := Has.at H152 hin152 rfl
  have K153 : own_K p e below G0 T107 (F1 311 [.val (.ref b2), .val (.ref epA), .val (.ref upA), .val (.int rdf), .val (.int wdf), .val (.int di), .val (.int ai), .val (.int ci), .val (.int bi), .val (.int mi), .val (.int m2i), .val (.int m3i), .val (.int ea), .val (.int eb), .val (.int ec), .val (.int g0), .val (.int g1), .unset, .unset, .unset, .unset, .unset, .unset, .unset, .unset, .unset, .unset, .unset, .unset, .unset, .unset, .unset, .unset, .unset, .unset, .unset, .unset, .unset, .unset, .unset, .unset, .unset, .unset, .unset, .unset, .unset, .unset, .unset, .unset, .unset, .unset] [(.int (2 : Int32)), (.ref upA)]) := by
    intro t kt
    refine K151 t ?_
    refine X107.iaload hx (j := (1 : Int32)) (v := (.int g1)) (by rw [e107]; exact (Ar152).1) (State.isArrayOf_alike hZ.alike (Ar152).2.1) (Ar152).2.2 hin152 hat152 (g := (F1 305 [.val (.ref b2), .val (.ref epA), .val (.ref upA), .val (.int rdf), .val (.int wdf), .val (.int di), .val (.int ai), .val (.int ci), .val (.int bi), .val (.int mi), .val (.int m2i), .val (.int m3i), .val (.int ea), .val (.int eb), .val (.int ec), .val (.int g0), .unset, .unset, .unset, .unset, .unset, .unset, .unset, .unset, .unset, .unset, .unset, .unset, .unset, .unset, .unset, .unset, .unset, .unset, .unset, .unset, .unset, .unset, .unset, .unset, .unset, .unset, .unset, .unset, .unset, .unset, .unset, .unset, .unset, .unset, .unset] [(.int (1 : Int32)), (.ref upA)])) rfl rfl (hb hby at_305) _ ?_
    show own_S p e below T107 (mkF m 306 _ [(.int g1)]) _
    refine XS.istore X107.here hx rfl (hb hby at_306) rfl (l' := (F1 0 [.val (.ref b2), .val (.ref epA), .val (.ref upA), .val (.int rdf), .val (.int wdf), .val (.int di), .val (.int ai), .val (.int ci), .val (.int bi), .val (.int mi), .val (.int m2i), .val (.int m3i), .val (.int ea), .val (.int eb), .val (.int ec), .val (.int g0), .val (.int g1), .unset, .unset, .unset, .unset, .unset, .unset, .unset, .unset, .unset, .unset, .unset, .unset, .unset, .unset, .unset, .unset, .unset, .unset, .unset, .unset, .unset, .unset, .unset, .unset, .unset, .unset, .unset, .unset, .unset, .unset, .unset, .unset, .unset, .unset] []).locals) rfl ?_
    show own_S p e below T107 (mkF m 308 _ []) _
    refine XS.aload X107.here hx rfl (hb hby at_308) rfl rfl ?_
    show own_S p e below T107 (mkF m 310 _ [(.ref upA)]) _
    refine XS.iconst X107.here hx rfl (hb hby at_310) ?_
    show own_S p e below T107 (mkF m 311 _ [(.int (2 : Int32)), (.ref upA)]) _
    exact kt
  obtain ⟨cl154, Ar154, qq154, S154, M154, H154, GG154⟩ := id V_upA
  have hin154 : ¬ ((2 : Int32) < 0 ∨ cl154.slots.size ≤ ((2 : Int32)).toNatClampNeg) := inb_of S154 ⟨by decide, by decide⟩
  have hat154 : cl154.slots[((2 : Int32)).toNatClampNeg]? = some (.int gf) := Has.at H154 hin154 rfl
  have K155 : own_K p e below G0 T107 (F1 339 [.val (.ref b2), .val (.ref epA), .val (.ref upA), .val (.int rdf), .val (.int wdf), .val (.int di), .val (.int ai), .val (.int ci), .val (.int bi), .val (.int mi), .val (.int m2i), .val (.int m3i), .val (.int ea), .val (.int eb), .val (.int ec), .val (.int g0), .val (.int g1), .val (.int gf), .val (.double (FP.i2d ai)), .second, .val (.double (FP.i2d bi)), .second, .val (.double (FP.i2d ci)), .second, .val (.double (FP.i2d di)), .second, .val (.double (FP.i2d mi)), .second, .unset, .unset, .unset, .unset, .unset, .unset, .unset, .unset, .unset, .unset, .unset, .unset, .unset, .unset, .unset, .unset, .unset, .unset, .unset, .unset, .unset, .unset, .unset] []) := by
    intro t kt
    refine K153 t ?_
    refine X107.iaload hx (j := (2 : Int32)) (v := (.int gf)) (by rw [e107]; exact (Ar154).1) (State.isArrayOf_alike hZ.alike (Ar154).2.1) (Ar154).2.2 hin154 hat154 (g := (F1 311 [.val (.ref b2), .val (.ref epA), .val (.ref upA), .val (.int rdf), .val (.int wdf), .val (.int di), .val (.int ai), .val (.int ci), .val (.int bi), .val (.int mi), .val (.int m2i), .val (.int m3i), .val (.int ea), .val (.int eb), .val (.int ec), .val (.int g0), .val (.int g1), .unset, .unset, .unset, .unset, .unset, .unset, .unset, .unset, .unset, .unset, .unset, .unset, .unset, .unset, .unset, .unset, .unset, .unset, .unset, .unset, .unset, .unset, .unset, .unset, .unset, .unset, .unset, .unset, .unset, .unset, .unset, .unset, .unset, .unset] [(.int (2 : Int32)), (.ref upA)])) rfl rfl (hb hby at_311) _ ?_
    show own_S p e below T107 (mkF m 312 _ [(.int gf)]) _
    refine XS.istore X107.here hx rfl (hb hby at_312) rfl (l' := (F1 0 [.val (.ref b2), .val (.ref epA), .val (.ref upA), .val (.int rdf), .val (.int wdf), .val (.int di), .val (.int ai), .val (.int ci), .val (.int bi), .val (.int mi), .val (.int m2i), .val (.int m3i), .val (.int ea), .val (.int eb), .val (.int ec), .val (.int g0), .val (.int g1), .val (.int gf), .unset, .unset, .unset, .unset, .unset, .unset, .unset, .unset, .unset, .unset, .unset, .unset, .unset, .unset, .unset, .unset, .unset, .unset, .unset, .unset, .unset, .unset, .unset, .unset, .unset, .unset, .unset, .unset, .unset, .unset, .unset, .unset, .unset] []).locals) rfl ?_
    show own_S p e below T107 (mkF m 314 _ []) _
    refine XS.iload X107.here hx rfl (hb hby at_314) rfl ?_
    show own_S p e below T107 (mkF m 316 _ [(.int ai)]) _
    refine XS.i2dS X107.here hx rfl (hb hby at_316) rfl rfl ?_
    show own_S p e below T107 (mkF m 317 _ [(.double (FP.i2d ai))]) _
    refine XS.dstore X107.here hx rfl (hb hby at_317) rfl (l' := (F1 0 [.val (.ref b2), .val (.ref epA), .val (.ref upA), .val (.int rdf), .val (.int wdf), .val (.int di), .val (.int ai), .val (.int ci), .val (.int bi), .val (.int mi), .val (.int m2i), .val (.int m3i), .val (.int ea), .val (.int eb), .val (.int ec), .val (.int g0), .val (.int g1), .val (.int gf), .val (.double (FP.i2d ai)), .second, .unset, .unset, .unset, .unset, .unset, .unset, .unset, .unset, .unset, .unset, .unset, .unset, .unset, .unset, .unset, .unset, .unset, .unset, .unset, .unset, .unset, .unset, .unset, .unset, .unset, .unset, .unset, .unset, .unset, .unset, .unset] []).locals) rfl ?_
    show own_S p e below T107 (mkF m 319 _ []) _
    refine XS.iload X107.here hx rfl (hb hby at_319) rfl ?_
    show own_S p e below T107 (mkF m 321 _ [(.int bi)]) _
    refine XS.i2dS X107.here hx rfl (hb hby at_321) rfl rfl ?_
    show own_S p e below T107 (mkF m 322 _ [(.double (FP.i2d bi))]) _
    refine XS.dstore X107.here hx rfl (hb hby at_322) rfl (l' := (F1 0 [.val (.ref b2), .val (.ref epA), .val (.ref upA), .val (.int rdf), .val (.int wdf), .val (.int di), .val (.int ai), .val (.int ci), .val (.int bi), .val (.int mi), .val (.int m2i), .val (.int m3i), .val (.int ea), .val (.int eb), .val (.int ec), .val (.int g0), .val (.int g1), .val (.int gf), .val (.double (FP.i2d ai)), .second, .val (.double (FP.i2d bi)), .second, .unset, .unset, .unset, .unset, .unset, .unset, .unset, .unset, .unset, .unset, .unset, .unset, .unset, .unset, .unset, .unset, .unset, .unset, .unset, .unset, .unset, .unset, .unset, .unset, .unset, .unset, .unset, .unset, .unset] []).locals) rfl ?_
    show own_S p e below T107 (mkF m 324 _ []) _
    refine XS.iload X107.here hx rfl (hb hby at_324) rfl ?_
    show own_S p e below T107 (mkF m 326 _ [(.int ci)]) _
    refine XS.i2dS X107.here hx rfl (hb hby at_326) rfl rfl ?_
    show own_S p e below T107 (mkF m 327 _ [(.double (FP.i2d ci))]) _
    refine XS.dstore X107.here hx rfl (hb hby at_327) rfl (l' := (F1 0 [.val (.ref b2), .val (.ref epA), .val (.ref upA), .val (.int rdf), .val (.int wdf), .val (.int di), .val (.int ai), .val (.int ci), .val (.int bi), .val (.int mi), .val (.int m2i), .val (.int m3i), .val (.int ea), .val (.int eb), .val (.int ec), .val (.int g0), .val (.int g1), .val (.int gf), .val (.double (FP.i2d ai)), .second, .val (.double (FP.i2d bi)), .second, .val (.double (FP.i2d ci)), .second, .unset, .unset, .unset, .unset, .unset, .unset, .unset, .unset, .unset, .unset, .unset, .unset, .unset, .unset, .unset, .unset, .unset, .unset, .unset, .unset, .unset, .unset, .unset, .unset, .unset, .unset, .unset] []).locals) rfl ?_
    show own_S p e below T107 (mkF m 329 _ []) _
    refine XS.iload X107.here hx rfl (hb hby at_329) rfl ?_
    show own_S p e below T107 (mkF m 331 _ [(.int di)]) _
    refine XS.i2dS X107.here hx rfl (hb hby at_331) rfl rfl ?_
    show own_S p e below T107 (mkF m 332 _ [(.double (FP.i2d di))]) _
    refine XS.dstore X107.here hx rfl (hb hby at_332) rfl (l' := (F1 0 [.val (.ref b2), .val (.ref epA), .val (.ref upA), .val (.int rdf), .val (.int wdf), .val (.int di), .val (.int ai), .val (.int ci), .val (.int bi), .val (.int mi), .val (.int m2i), .val (.int m3i), .val (.int ea), .val (.int eb), .val (.int ec), .val (.int g0), .val (.int g1), .val (.int gf), .val (.double (FP.i2d ai)), .second, .val (.double (FP.i2d bi)), .second, .val (.double (FP.i2d ci)), .second, .val (.double (FP.i2d di)), .second, .unset, .unset, .unset, .unset, .unset, .unset, .unset, .unset, .unset, .unset, .unset, .unset, .unset, .unset, .unset, .unset, .unset, .unset, .unset, .unset, .unset, .unset, .unset, .unset, .unset] []).locals) rfl ?_
    show own_S p e below T107 (mkF m 334 _ []) _
    refine XS.iload X107.here hx rfl (hb hby at_334) rfl ?_
    show own_S p e below T107 (mkF m 336 _ [(.int mi)]) _
    refine XS.i2dS X107.here hx rfl (hb hby at_336) rfl rfl ?_
    show own_S p e below T107 (mkF m 337 _ [(.double (FP.i2d mi))]) _
    refine XS.dstore X107.here hx rfl (hb hby at_337) rfl (l' := (F1 0 [.val (.ref b2), .val (.ref epA), .val (.ref upA), .val (.int rdf), .val (.int wdf), .val (.int di), .val (.int ai), .val (.int ci), .val (.int bi), .val (.int mi), .val (.int m2i), .val (.int m3i), .val (.int ea), .val (.int eb), .val (.int ec), .val (.int g0), .val (.int g1), .val (.int gf), .val (.double (FP.i2d ai)), .second, .val (.double (FP.i2d bi)), .second, .val (.double (FP.i2d ci)), .second, .val (.double (FP.i2d di)), .second, .val (.double (FP.i2d mi)), .second, .unset, .unset, .unset, .unset, .unset, .unset, .unset, .unset, .unset, .unset, .unset, .unset, .unset, .unset, .unset, .unset, .unset, .unset, .unset, .unset, .unset, .unset, .unset] []).locals) rfl ?_
    show own_S p e below T107 (mkF m 339 _ []) _
    exact kt
  let FX : Nat → List Slot → List Value → JFrame := fun pc r st => mkF m pc (List.toArray (.val (.int j0) :: .val (.int j1) :: .val (.int j2) :: .val (.int cf) :: .val (.int sh) :: .val (.int ex) :: .val (.ref b2) :: .val (.ref epA) :: .val (.ref upA) :: .val (.int rdf) :: .val (.int wdf) :: .val (.int di) :: .val (.int ai) :: .val (.int ci) :: .val (.int bi) :: .val (.int mi) :: .val (.int m2i) :: .val (.int m3i) :: .val (.int ea) :: .val (.int eb) :: .val (.int ec) :: .val (.int g0) :: .val (.int g1) :: .val (.int gf) :: .val (.double (FP.i2d ai)) :: .second :: .val (.double (FP.i2d bi)) :: .second :: .val (.double (FP.i2d ci)) :: .second :: .val (.double (FP.i2d di)) :: .second :: .val (.double (FP.i2d mi)) :: .second :: r)) st
  have K156 : own_K p e below G0 T107 (FX 341 [.unset, .unset, .unset, .unset, .unset, .unset, .unset, .unset, .unset, .unset, .unset, .unset, .unset, .unset, .unset, .unset, .unset, .unset, .unset, .unset, .unset, .unset, .unset] [(.int wdf)]) := by
    intro t kt
    refine K155 t ?_
    refine XS.iload X107.here hx rfl (hb hby at_339) rfl ?_
    show own_S p e below T107 (mkF m 341 _ [(.int wdf)]) _
    exact kt
  obtain ⟨TJ, hJ, LJ, ra, ca, rc, cc, wb, XJ, eJ, NJ, ZJ, E_ra, E_ca, E_rc, E_cc, RWJ, KJ⟩ : ∃ (TJ : State) (hJ : Heap) (LJ : List Loc) (ra ca rc cc : Addr) (wb : Bool), Stand p l e room_1 s m #[(.int j0), (.int j1), (.int j2), (.int cf), (.int sh), (.int ex)] below meth c TJ LJ 11 34 ∧ TJ.heap = hJ ∧ Fr n0 LJ ∧ n0 ≤ hJ.size ∧ Exa Z hJ ra "[I" ∧ Exa Z hJ ca "[D" ∧ Exa Z hJ rc "[I" ∧ Exa Z hJ cc "[D" ∧ own_Rows Z hJ wb ra ca rc cc g0 g1 gf (FP.i2d ai) (FP.i2d bi) (FP.i2d ci) (FP.i2d di) ∧ own_K p e below G0 TJ (FX 467 [.val (.ref ra), .val (.ref ca), .val (.ref rc), .val (.ref cc), .unset, .unset, .unset, .unset, .unset, .unset, .unset, .unset, .unset, .unset, .unset, .unset, .unset, .unset, .unset, .unset, .unset, .unset, .unset] []) := by
    by_cases hc157 : wdf = (0 : Int32)
    ·
      have K158 : own_K p e below G0 T107 (FX 418 [.unset, .unset, .unset, .unset, .unset, .unset, .unset, .unset, .unset, .unset, .unset, .unset, .unset, .unset, .unset, .unset, .unset, .unset, .unset, .unset, .unset, .unset, .unset] [(.int (2 : Int32))]) := by
        intro t kt
        refine K156 t ?_
        refine XS.ifYes X107.here hx rfl (pc0 := 341) (pc' := 417) rfl (hb hby at_341) rfl ((if0 _ _).trans (teq hc157).1) (by decide) (by decide) ?_
        show own_S p e below T107 (mkF m 417 _ []) _
        refine XS.iconst X107.here hx rfl (hb hby at_417) ?_
        show own_S p e below T107 (mkF m 418 _ [(.int (2 : Int32))]) _
        exact kt
      obtain ⟨T159, h159, k159, X159, e159, E159, A159, EA159, st159⟩ := newPE X107 hx hZ (hw _ (List.mem_of_getElem? (i := 2) rfl)) e107 (g := (FX 418 [.unset, .unset, .unset, .unset, .unset, .unset, .unset, .unset, .unset, .unset, .unset, .unset, .unset, .unset, .unset, .unset, .unset, .unset, .unset, .unset, .unset, .unset, .unset] [(.int (2 : Int32))])) rfl (hb hby at_418) rfl (by decide) (cap := 2) (by decide) (by decide) (by decide) (by decide) (ad := "[I") (by decide)
      obtain ⟨b159, g159⟩ : ∃ z, z = h107.size := ⟨_, rfl⟩
      rw [← g159] at A159 EA159 st159
      have V159 := Arv.new A159 (by decide)
      have gn159 : n0 ≤ b159 := Nat.le_trans Z107 (Nat.le_of_eq g159.symm)
      have Z159 : n0 ≤ h159.size := Nat.le_trans Z107 E159.1
      have K159 : own_K p e below G0 T159 (FX 420 [.unset, .unset, .unset, .unset, .unset, .unset, .unset, .unset, .unset, .unset, .unset, .unset, .unset, .unset, .unset, .unset, .unset, .unset, .unset, .unset, .unset, .unset, .unset] [(.ref b159)]) := fun t kt => K158 t (st159 _ kt)
      have ne_b2_b159 : b2 ≠ b159 := Nat.ne_of_lt (Nat.lt_of_lt_of_le (VL107).lt (Nat.le_of_eq g159.symm))
      have ne_b4_b159 : b4 ≠ b159 := Nat.ne_of_lt (Nat.lt_of_lt_of_le (f109).lt (Nat.le_of_eq g159.symm))
      have ne_b20_b159 : b20 ≠ b159 := Nat.ne_of_lt (Nat.lt_of_lt_of_le (f110).lt (Nat.le_of_eq g159.symm))
      have ne_b37_b159 : b37 ≠ b159 := Nat.ne_of_lt (Nat.lt_of_lt_of_le (f111).lt (Nat.le_of_eq g159.symm))
      have ne_b55_b159 : b55 ≠ b159 := Nat.ne_of_lt (Nat.lt_of_lt_of_le (f112).lt (Nat.le_of_eq g159.symm))
      have ne_b74_b159 : b74 ≠ b159 := Nat.ne_of_lt (Nat.lt_of_lt_of_le (f113).lt (Nat.le_of_eq g159.symm))
      have ne_b94_b159 : b94 ≠ b159 := Nat.ne_of_lt (Nat.lt_of_lt_of_le (f114).lt (Nat.le_of_eq g159.symm))
      have ne_epA_b159 : epA ≠ b159 := Nat.ne_of_lt (Nat.lt_of_lt_of_le (V_epA).lt (Nat.le_of_eq g159.symm))
      have ne_upA_b159 : upA ≠ b159 := Nat.ne_of_lt (Nat.lt_of_lt_of_le (V_upA).lt (Nat.le_of_eq g159.symm))
      have VL159 : Arv Z h159 b159 k159 .int (2 : Int32) [(.int (0 : Int32)), (.int (0 : Int32))] (.int (0 : Int32)) := V159.pad (pad_rep [] (.int (0 : Int32)) 2)
      have K160 : own_K p e below G0 T159 (FX 424 [.unset, .unset, .unset, .unset, .unset, .unset, .unset, .unset, .unset, .unset, .unset, .unset, .unset, .unset, .unset, .unset, .unset, .unset, .unset, .unset, .unset, .unset, .unset] [(.int g0), (.int (0 : Int32)), (.ref b159), (.ref b159)]) := by
        intro t kt
        refine K159 t ?_
        refine XS.dup X159.here hx rfl (hb hby at_420) rfl rfl ?_
        show own_S p e below T159 (mkF m 421 _ [(.ref b159), (.ref b159)]) _
        refine XS.iconst X159.here hx rfl (hb hby at_421) ?_
        show own_S p e below T159 (mkF m 422 _ [(.int (0 : Int32)), (.ref b159), (.ref b159)]) _
        refine XS.iload X159.here hx rfl (hb hby at_422) rfl ?_
        show own_S p e below T159 (mkF m 424 _ [(.int g0), (.int (0 : Int32)), (.ref b159), (.ref b159)]) _
        exact kt
      obtain ⟨cl161, Ar161, qq161, S161, M161, H161, GG161⟩ := id VL159
      have hin161 : ¬ ((0 : Int32) < 0 ∨ cl161.slots.size ≤ ((0 : Int32)).toNatClampNeg) := inb_of S161 ⟨by decide, by decide⟩
      obtain ⟨T162, h162, X162, e162, W162, st162⟩ := stI X159 hx hZ e159 Ar161 (j := (0 : Int32)) hin161 (g := (FX 424 [.unset, .unset, .unset, .unset, .unset, .unset, .unset, .unset, .unset, .unset, .unset, .unset, .unset, .unset, .unset, .unset, .unset, .unset, .unset, .unset, .unset, .unset, .unset] [(.int g0), (.int (0 : Int32)), (.ref b159), (.ref b159)])) rfl rfl (hb hby at_424)
      have K162 : own_K p e below G0 T162 (FX 425 [.unset, .unset, .unset, .unset, .unset, .unset, .unset, .unset, .unset, .unset, .unset, .unset, .unset, .unset, .unset, .unset, .unset, .unset, .unset, .unset, .unset, .unset, .unset] [(.ref b159)]) := fun t kt => K160 t (st162 _ kt)
      have Z162 : n0 ≤ h162.size := Nat.le_trans Z159 (Keep.of_wr W162).1
      have VL162 : Arv Z h162 b159 k159 .int (2 : Int32) [(.int g0), (.int (0 : Int32))] (.int (0 : Int32)) := Arv.set Ar161 qq161 S161 M161 H161 GG161 rfl W162 0 rfl (Nat.le_of_ble_eq_true rfl)
      have N162 := Fr.snoc X162 N107 gn159
      have K163 : own_K p e below G0 T162 (FX 429 [.unset, .unset, .unset, .unset, .unset, .unset, .unset, .unset, .unset, .unset, .unset, .unset, .unset, .unset, .unset, .unset, .unset, .unset, .unset, .unset, .unset, .unset, .unset] [(.int g1), (.int (1 : Int32)), (.ref b159), (.ref b159)]) := by
        intro t kt
        refine K162 t ?_
        refine XS.dup X162.here hx rfl (hb hby at_425) rfl rfl ?_
        show own_S p e below T162 (mkF m 426 _ [(.ref b159), (.ref b159)]) _
        refine XS.iconst X162.here hx rfl (hb hby at_426) ?_
        show own_S p e below T162 (mkF m 427 _ [(.int (1 : Int32)), (.ref b159), (.ref b159)]) _
        refine XS.iload X162.here hx rfl (hb hby at_427) rfl ?_
        show own_S p e below T162 (mkF m 429 _ [(.int g1), (.int (1 : Int32)), (.ref b159), (.ref b159)]) _
        exact kt
      obtain ⟨cl164, Ar164, qq164, S164, M164, H164, GG164⟩ := id VL162
      have hin164 : ¬ ((1 : Int32) < 0 ∨ cl164.slots.size ≤ ((1 : Int32)).toNatClampNeg) := inb_of S164 ⟨by decide, by decide⟩
      obtain ⟨T165, h165, X165, e165, W165, st165⟩ := stI X162 hx hZ e162 Ar164 (j := (1 : Int32)) hin164 (g := (FX 429 [.unset, .unset, .unset, .unset, .unset, .unset, .unset, .unset, .unset, .unset, .unset, .unset, .unset, .unset, .unset, .unset, .unset, .unset, .unset, .unset, .unset, .unset, .unset] [(.int g1), (.int (1 : Int32)), (.ref b159), (.ref b159)])) rfl rfl (hb hby at_429)
      have K165 : own_K p e below G0 T165 (FX 430 [.unset, .unset, .unset, .unset, .unset, .unset, .unset, .unset, .unset, .unset, .unset, .unset, .unset, .unset, .unset, .unset, .unset, .unset, .unset, .unset, .unset, .unset, .unset] [(.ref b159)]) := fun t kt => K163 t (st165 _ kt)
      have Z165 : n0 ≤ h165.size := Nat.le_trans Z162 (Keep.of_wr W165).1
      have VL165 : Arv Z h165 b159 k159 .int (2 : Int32) [(.int g0), (.int g1)] (.int (0 : Int32)) := Arv.set Ar164 qq164 S164 M164 H164 GG164 rfl W165 1 rfl (Nat.le_of_ble_eq_true rfl)
      have N165 := Fr.snoc X165 N162 gn159
      have K166 : own_K p e below G0 T165 (FX 433 [.val (.ref b159), .unset, .unset, .unset, .unset, .unset, .unset, .unset, .unset, .unset, .unset, .unset, .unset, .unset, .unset, .unset, .unset, .unset, .unset, .unset, .unset, .unset, .unset] [(.int (2 : Int32))]) := by
        intro t kt
        refine K165 t ?_
        refine XS.astore X165.here hx rfl (hb hby at_430) rfl rfl (l' := (FX 0 [.val (.ref b159), .unset, .unset, .unset, .unset, .unset, .unset, .unset, .unset, .unset, .unset, .unset, .unset, .unset, .unset, .unset, .unset, .unset, .unset, .unset, .unset, .unset, .unset] []).locals) rfl ?_
        show own_S p e below T165 (mkF m 432 _ []) _
        refine XS.iconst X165.here hx rfl (hb hby at_432) ?_
        show own_S p e below T165 (mkF m 433 _ [(.int (2 : Int32))]) _
        exact kt
      have f167 := (((VL107.ext E159).other W162 ne_b2_b159).other W165 ne_b2_b159)
      have f168 := (((f109.ext E159).other W162 ne_b4_b159).other W165 ne_b4_b159)
      have f169 := (((f110.ext E159).other W162 ne_b20_b159).other W165 ne_b20_b159)
      have f170 := (((f111.ext E159).other W162 ne_b37_b159).other W165 ne_b37_b159)
      have f171 := (((f112.ext E159).other W162 ne_b55_b159).other W165 ne_b55_b159)
      have f172 := (((f113.ext E159).other W162 ne_b74_b159).other W165 ne_b74_b159)
      have f173 := (((f114.ext E159).other W162 ne_b94_b159).other W165 ne_b94_b159)
      have f174 := (((V_epA.ext E159).other W162 ne_epA_b159).other W165 ne_epA_b159)
      have f175 := (((V_upA.ext E159).other W162 ne_upA_b159).other W165 ne_upA_b159)
      obtain ⟨T176, h176, k176, X176, e176, E176, A176, EA176, st176⟩ := newPE X165 hx hZ (hw _ (List.mem_of_getElem? (i := 4) rfl)) e165 (g := (FX 433 [.val (.ref b159), .unset, .unset, .unset, .unset, .unset, .unset, .unset, .unset, .unset, .unset, .unset, .unset, .unset, .unset, .unset, .unset, .unset, .unset, .unset, .unset, .unset, .unset] [(.int (2 : Int32))])) rfl (hb hby at_433) rfl (by decide) (cap := 2) (by decide) (by decide) (by decide) (by decide) (ad := "[D") (by decide)
      obtain ⟨b176, g176⟩ : ∃ z, z = h165.size := ⟨_, rfl⟩
      rw [← g176] at A176 EA176 st176
      have V176 := Arv.new A176 (by decide)
      have gn176 : n0 ≤ b176 := Nat.le_trans Z165 (Nat.le_of_eq g176.symm)
      have Z176 : n0 ≤ h176.size := Nat.le_trans Z165 E176.1
      have K176 : own_K p e below G0 T176 (FX 435 [.val (.ref b159), .unset, .unset, .unset, .unset, .unset, .unset, .unset, .unset, .unset, .unset, .unset, .unset, .unset, .unset, .unset, .unset, .unset, .unset, .unset, .unset, .unset, .unset] [(.ref b176)]) := fun t kt => K166 t (st176 _ kt)
      have ne_b2_b176 : b2 ≠ b176 := Nat.ne_of_lt (Nat.lt_of_lt_of_le (f167).lt (Nat.le_of_eq g176.symm))
      have ne_b4_b176 : b4 ≠ b176 := Nat.ne_of_lt (Nat.lt_of_lt_of_le (f168).lt (Nat.le_of_eq g176.symm))
      have ne_b20_b176 : b20 ≠ b176 := Nat.ne_of_lt (Nat.lt_of_lt_of_le (f169).lt (Nat.le_of_eq g176.symm))
      have ne_b37_b176 : b37 ≠ b176 := Nat.ne_of_lt (Nat.lt_of_lt_of_le (f170).lt (Nat.le_of_eq g176.symm))
      have ne_b55_b176 : b55 ≠ b176 := Nat.ne_of_lt (Nat.lt_of_lt_of_le (f171).lt (Nat.le_of_eq g176.symm))
      have ne_b74_b176 : b74 ≠ b176 := Nat.ne_of_lt (Nat.lt_of_lt_of_le (f172).lt (Nat.le_of_eq g176.symm))
      have ne_b94_b176 : b94 ≠ b176 := Nat.ne_of_lt (Nat.lt_of_lt_of_le (f173).lt (Nat.le_of_eq g176.symm))
      have ne_epA_b176 : epA ≠ b176 := Nat.ne_of_lt (Nat.lt_of_lt_of_le (f174).lt (Nat.le_of_eq g176.symm))
      have ne_upA_b176 : upA ≠ b176 := Nat.ne_of_lt (Nat.lt_of_lt_of_le (f175).lt (Nat.le_of_eq g176.symm))
      have ne_b159_b176 : b159 ≠ b176 := Nat.ne_of_lt (Nat.lt_of_lt_of_le (VL165).lt (Nat.le_of_eq g176.symm))
      have VL176 : Arv Z h176 b176 k176 .double (2 : Int32) [(.double 0), (.double 0)] (.double 0) := V176.pad (pad_rep [] (.double 0) 2)
      have K177 : own_K p e below G0 T176 (FX 439 [.val (.ref b159), .unset, .unset, .unset, .unset, .unset, .unset, .unset, .unset, .unset, .unset, .unset, .unset, .unset, .unset, .unset, .unset, .unset, .unset, .unset, .unset, .unset, .unset] [(.double (FP.i2d ai)), (.int (0 : Int32)), (.ref b176), (.ref b176)]) := by
        intro t kt
        refine K176 t ?_
        refine XS.dup X176.here hx rfl (hb hby at_435) rfl rfl ?_
        show own_S p e below T176 (mkF m 436 _ [(.ref b176), (.ref b176)]) _
        refine XS.iconst X176.here hx rfl (hb hby at_436) ?_
        show own_S p e below T176 (mkF m 437 _ [(.int (0 : Int32)), (.ref b176), (.ref b176)]) _
        refine XS.dload X176.here hx rfl (hb hby at_437) rfl ?_
        show own_S p e below T176 (mkF m 439 _ [(.double (FP.i2d ai)), (.int (0 : Int32)), (.ref b176), (.ref b176)]) _
        exact kt
      obtain ⟨cl178, Ar178, qq178, S178, M178, H178, GG178⟩ := id VL176
      have hin178 : ¬ ((0 : Int32) < 0 ∨ cl178.slots.size ≤ ((0 : Int32)).toNatClampNeg) := inb_of S178 ⟨by decide, by decide⟩
      obtain ⟨T179, h179, X179, e179, W179, st179⟩ := stD X176 hx hZ e176 Ar178 (j := (0 : Int32)) hin178 (g := (FX 439 [.val (.ref b159), .unset, .unset, .unset, .unset, .unset, .unset, .unset, .unset, .unset, .unset, .unset, .unset, .unset, .unset, .unset, .unset, .unset, .unset, .unset, .unset, .unset, .unset] [(.double (FP.i2d ai)), (.int (0 : Int32)), (.ref b176), (.ref b176)])) rfl rfl (hb hby at_439)
      have K179 : own_K p e below G0 T179 (FX 440 [.val (.ref b159), .unset, .unset, .unset, .unset, .unset, .unset, .unset, .unset, .unset, .unset, .unset, .unset, .unset, .unset, .unset, .unset, .unset, .unset, .unset, .unset, .unset, .unset] [(.ref b176)]) := fun t kt => K177 t (st179 _ kt)
      have Z179 : n0 ≤ h179.size := Nat.le_trans Z176 (Keep.of_wr W179).1
      have VL179 : Arv Z h179 b176 k176 .double (2 : Int32) [(.double (FP.i2d ai)), (.double 0)] (.double 0) := Arv.set Ar178 qq178 S178 M178 H178 GG178 rfl W179 0 rfl (Nat.le_of_ble_eq_true rfl)
      have N179 := Fr.snoc X179 N165 gn176
      have K180 : own_K p e below G0 T179 (FX 444 [.val (.ref b159), .unset, .unset, .unset, .unset, .unset, .unset, .unset, .unset, .unset, .unset, .unset, .unset, .unset, .unset, .unset, .unset, .unset, .unset, .unset, .unset, .unset, .unset] [(.double (FP.i2d bi)), (.int (1 : Int32)), (.ref b176), (.ref b176)]) := by
        intro t kt
        refine K179 t ?_
        refine XS.dup X179.here hx rfl (hb hby at_440) rfl rfl ?_
        show own_S p e below T179 (mkF m 441 _ [(.ref b176), (.ref b176)]) _
        refine XS.iconst X179.here hx rfl (hb hby at_441) ?_
        show own_S p e below T179 (mkF m 442 _ [(.int (1 : Int32)), (.ref b176), (.ref b176)]) _
        refine XS.dload X179.here hx rfl (hb hby at_442) rfl ?_
        show own_S p e below T179 (mkF m 444 _ [(.double (FP.i2d bi)), (.int (1 : Int32)), (.ref b176), (.ref b176)]) _
        exact kt
      obtain ⟨cl181, Ar181, qq181, S181, M181, H181, GG181⟩ := id VL179
      have hin181 : ¬ ((1 : Int32) < 0 ∨ cl181.slots.size ≤ ((1 : Int32)).toNatClampNeg) := inb_of S181 ⟨by decide, by decide⟩
      obtain ⟨T182, h182, X182, e182, W182, st182⟩ := stD X179 hx hZ e179 Ar181 (j := (1 : Int32)) hin181 (g := (FX 444 [.val (.ref b159), .unset, .unset, .unset, .unset, .unset, .unset, .unset, .unset, .unset, .unset, .unset, .unset, .unset, .unset, .unset, .unset, .unset, .unset, .unset, .unset, .unset, .unset] [(.double (FP.i2d bi)), (.int (1 : Int32)), (.ref b176), (.ref b176)])) rfl rfl (hb hby at_444)
      have K182 : own_K p e below G0 T182 (FX 445 [.val (.ref b159), .unset, .unset, .unset, .unset, .unset, .unset, .unset, .unset, .unset, .unset, .unset, .unset, .unset, .unset, .unset, .unset, .unset, .unset, .unset, .unset, .unset, .unset] [(.ref b176)]) := fun t kt => K180 t (st182 _ kt)
      have Z182 : n0 ≤ h182.size := Nat.le_trans Z179 (Keep.of_wr W182).1
      have VL182 : Arv Z h182 b176 k176 .double (2 : Int32) [(.double (FP.i2d ai)), (.double (FP.i2d bi))] (.double 0) := Arv.set Ar181 qq181 S181 M181 H181 GG181 rfl W182 1 rfl (Nat.le_of_ble_eq_true rfl)
      have N182 := Fr.snoc X182 N179 gn176
      have K183 : own_K p e below G0 T182 (FX 448 [.val (.ref b159), .val (.ref b176), .unset, .unset, .unset, .unset, .unset, .unset, .unset, .unset, .unset, .unset, .unset, .unset, .unset, .unset, .unset, .unset, .unset, .unset, .unset, .unset, .unset] [(.int (1 : Int32))]) := by
        intro t kt
        refine K182 t ?_
        refine XS.astore X182.here hx rfl (hb hby at_445) rfl rfl (l' := (FX 0 [.val (.ref b159), .val (.ref b176), .unset, .unset, .unset, .unset, .unset, .unset, .unset, .unset, .unset, .unset, .unset, .unset, .unset, .unset, .unset, .unset, .unset, .unset, .unset, .unset, .unset] []).locals) rfl ?_
        show own_S p e below T182 (mkF m 447 _ []) _
        refine XS.iconst X182.here hx rfl (hb hby at_447) ?_
        show own_S p e below T182 (mkF m 448 _ [(.int (1 : Int32))]) _
        exact kt
      have f184 := (((f167.ext E176).other W179 ne_b2_b176).other W182 ne_b2_b176)
      have f185 := (((f168.ext E176).other W179 ne_b4_b176).other W182 ne_b4_b176)
      have f186 := (((f169.ext E176).other W179 ne_b20_b176).other W182 ne_b20_b176)
      have f187 := (((f170.ext E176).other W179 ne_b37_b176).other W182 ne_b37_b176)
      have f188 := (((f171.ext E176).other W179 ne_b55_b176).other W182 ne_b55_b176)
      have f189 := (((f172.ext E176).other W179 ne_b74_b176).other W182 ne_b74_b176)
      have f190 := (((f173.ext E176).other W179 ne_b94_b176).other W182 ne_b94_b176)
      have f191 := (((f174.ext E176).other W179 ne_epA_b176).other W182 ne_epA_b176)
      have f192 := (((f175.ext E176).other W179 ne_upA_b176).other W182 ne_upA_b176)
      have f193 := (((VL165.ext E176).other W179 ne_b159_b176).other W182 ne_b159_b176)
      obtain ⟨T194, h194, k194, X194, e194, E194, A194, EA194, st194⟩ := newPE X182 hx hZ (hw _ (List.mem_of_getElem? (i := 2) rfl)) e182 (g := (FX 448 [.val (.ref b159), .val (.ref b176), .unset, .unset, .unset, .unset, .unset, .unset, .unset, .unset, .unset, .unset, .unset, .unset, .unset, .unset, .unset, .unset, .unset, .unset, .unset, .unset, .unset] [(.int (1 : Int32))])) rfl (hb hby at_448) rfl (by decide) (cap := 1) (by decide) (by decide) (by decide) (by decide) (ad := "[I") (by decide)
      obtain ⟨b194, g194⟩ : ∃ z, z = h182.size := ⟨_, rfl⟩
      rw [← g194] at A194 EA194 st194
      have V194 := Arv.new A194 (by decide)
      have gn194 : n0 ≤ b194 := Nat.le_trans Z182 (Nat.le_of_eq g194.symm)
      have Z194 : n0 ≤ h194.size := Nat.le_trans Z182 E194.1
      have K194 : own_K p e below G0 T194 (FX 450 [.val (.ref b159), .val (.ref b176), .unset, .unset, .unset, .unset, .unset, .unset, .unset, .unset, .unset, .unset, .unset, .unset, .unset, .unset, .unset, .unset, .unset, .unset, .unset, .unset, .unset] [(.ref b194)]) := fun t kt => K183 t (st194 _ kt)
      have ne_b2_b194 : b2 ≠ b194 := Nat.ne_of_lt (Nat.lt_of_lt_of_le (f184).lt (Nat.le_of_eq g194.symm))
      have ne_b4_b194 : b4 ≠ b194 := Nat.ne_of_lt (Nat.lt_of_lt_of_le (f185).lt (Nat.le_of_eq g194.symm))
      have ne_b20_b194 : b20 ≠ b194 := Nat.ne_of_lt (Nat.lt_of_lt_of_le (f186).lt (Nat.le_of_eq g194.symm))
      have ne_b37_b194 : b37 ≠ b194 := Nat.ne_of_lt (Nat.lt_of_lt_of_le (f187).lt (Nat.le_of_eq g194.symm))
      have ne_b55_b194 : b55 ≠ b194 := Nat.ne_of_lt (Nat.lt_of_lt_of_le (f188).lt (Nat.le_of_eq g194.symm))
      have ne_b74_b194 : b74 ≠ b194 := Nat.ne_of_lt (Nat.lt_of_lt_of_le (f189).lt (Nat.le_of_eq g194.symm))
      have ne_b94_b194 : b94 ≠ b194 := Nat.ne_of_lt (Nat.lt_of_lt_of_le (f190).lt (Nat.le_of_eq g194.symm))
      have ne_epA_b194 : epA ≠ b194 := Nat.ne_of_lt (Nat.lt_of_lt_of_le (f191).lt (Nat.le_of_eq g194.symm))
      have ne_upA_b194 : upA ≠ b194 := Nat.ne_of_lt (Nat.lt_of_lt_of_le (f192).lt (Nat.le_of_eq g194.symm))
      have ne_b159_b194 : b159 ≠ b194 := Nat.ne_of_lt (Nat.lt_of_lt_of_le (f193).lt (Nat.le_of_eq g194.symm))
      have ne_b176_b194 : b176 ≠ b194 := Nat.ne_of_lt (Nat.lt_of_lt_of_le (VL182).lt (Nat.le_of_eq g194.symm))
      have VL194 : Arv Z h194 b194 k194 .int (1 : Int32) [(.int (0 : Int32))] (.int (0 : Int32)) := V194.pad (pad_rep [] (.int (0 : Int32)) 1)
      have K195 : own_K p e below G0 T194 (FX 454 [.val (.ref b159), .val (.ref b176), .unset, .unset, .unset, .unset, .unset, .unset, .unset, .unset, .unset, .unset, .unset, .unset, .unset, .unset, .unset, .unset, .unset, .unset, .unset, .unset, .unset] [(.int g1), (.int (0 : Int32)), (.ref b194), (.ref b194)]) := by
        intro t kt
        refine K194 t ?_
        refine XS.dup X194.here hx rfl (hb hby at_450) rfl rfl ?_
        show own_S p e below T194 (mkF m 451 _ [(.ref b194), (.ref b194)]) _
        refine XS.iconst X194.here hx rfl (hb hby at_451) ?_
        show own_S p e below T194 (mkF m 452 _ [(.int (0 : Int32)), (.ref b194), (.ref b194)]) _
        refine XS.iload X194.here hx rfl (hb hby at_452) rfl ?_
        show own_S p e below T194 (mkF m 454 _ [(.int g1), (.int (0 : Int32)), (.ref b194), (.ref b194)]) _
        exact kt
      obtain ⟨cl196, Ar196, qq196, S196, M196, H196, GG196⟩ := id VL194
      have hin196 : ¬ ((0 : Int32) < 0 ∨ cl196.slots.size ≤ ((0 : Int32)).toNatClampNeg) := inb_of S196 ⟨by decide, by decide⟩
      obtain ⟨T197, h197, X197, e197, W197, st197⟩ := stI X194 hx hZ e194 Ar196 (j := (0 : Int32)) hin196 (g := (FX 454 [.val (.ref b159), .val (.ref b176), .unset, .unset, .unset, .unset, .unset, .unset, .unset, .unset, .unset, .unset, .unset, .unset, .unset, .unset, .unset, .unset, .unset, .unset, .unset, .unset, .unset] [(.int g1), (.int (0 : Int32)), (.ref b194), (.ref b194)])) rfl rfl (hb hby at_454)
      have K197 : own_K p e below G0 T197 (FX 455 [.val (.ref b159), .val (.ref b176), .unset, .unset, .unset, .unset, .unset, .unset, .unset, .unset, .unset, .unset, .unset, .unset, .unset, .unset, .unset, .unset, .unset, .unset, .unset, .unset, .unset] [(.ref b194)]) := fun t kt => K195 t (st197 _ kt)
      have Z197 : n0 ≤ h197.size := Nat.le_trans Z194 (Keep.of_wr W197).1
      have VL197 : Arv Z h197 b194 k194 .int (1 : Int32) [(.int g1)] (.int (0 : Int32)) := Arv.set Ar196 qq196 S196 M196 H196 GG196 rfl W197 0 rfl (Nat.le_of_ble_eq_true rfl)
      have N197 := Fr.snoc X197 N182 gn194
      have K198 : own_K p e below G0 T197 (FX 458 [.val (.ref b159), .val (.ref b176), .val (.ref b194), .unset, .unset, .unset, .unset, .unset, .unset, .unset, .unset, .unset, .unset, .unset, .unset, .unset, .unset, .unset, .unset, .unset, .unset, .unset, .unset] [(.int (1 : Int32))]) := by
        intro t kt
        refine K197 t ?_
        refine XS.astore X197.here hx rfl (hb hby at_455) rfl rfl (l' := (FX 0 [.val (.ref b159), .val (.ref b176), .val (.ref b194), .unset, .unset, .unset, .unset, .unset, .unset, .unset, .unset, .unset, .unset, .unset, .unset, .unset, .unset, .unset, .unset, .unset, .unset, .unset, .unset] []).locals) rfl ?_
        show own_S p e below T197 (mkF m 457 _ []) _
        refine XS.iconst X197.here hx rfl (hb hby at_457) ?_
        show own_S p e below T197 (mkF m 458 _ [(.int (1 : Int32))]) _
        exact kt
      have f199 := ((f184.ext E194).other W197 ne_b2_b194)
      have f200 := ((f185.ext E194).other W197 ne_b4_b194)
      have f201 := ((f186.ext E194).other W197 ne_b20_b194)
      have f202 := ((f187.ext E194).other W197 ne_b37_b194)
      have f203 := ((f188.ext E194).other W197 ne_b55_b194)
      have f204 := ((f189.ext E194).other W197 ne_b74_b194)
      have f205 := ((f190.ext E194).other W197 ne_b94_b194)
      have f206 := ((f191.ext E194).other W197 ne_epA_b194)
      have f207 := ((f192.ext E194).other W197 ne_upA_b194)
      have f208 := ((f193.ext E194).other W197 ne_b159_b194)
      have f209 := ((VL182.ext E194).other W197 ne_b176_b194)
      obtain ⟨T210, h210, k210, X210, e210, E210, A210, EA210, st210⟩ := newPE X197 hx hZ (hw _ (List.mem_of_getElem? (i := 4) rfl)) e197 (g := (FX 458 [.val (.ref b159), .val (.ref b176), .val (.ref b194), .unset, .unset, .unset, .unset, .unset, .unset, .unset, .unset, .unset, .unset, .unset, .unset, .unset, .unset, .unset, .unset, .unset, .unset, .unset, .unset] [(.int (1 : Int32))])) rfl (hb hby at_458) rfl (by decide) (cap := 1) (by decide) (by decide) (by decide) (by decide) (ad := "[D") (by decide)
      obtain ⟨b210, g210⟩ : ∃ z, z = h197.size := ⟨_, rfl⟩
      rw [← g210] at A210 EA210 st210
      have V210 := Arv.new A210 (by decide)
      have gn210 : n0 ≤ b210 := Nat.le_trans Z197 (Nat.le_of_eq g210.symm)
      have Z210 : n0 ≤ h210.size := Nat.le_trans Z197 E210.1
      have K210 : own_K p e below G0 T210 (FX 460 [.val (.ref b159), .val (.ref b176), .val (.ref b194), .unset, .unset, .unset, .unset, .unset, .unset, .unset, .unset, .unset, .unset, .unset, .unset, .unset, .unset, .unset, .unset, .unset, .unset, .unset, .unset] [(.ref b210)]) := fun t kt => K198 t (st210 _ kt)
      have ne_b2_b210 : b2 ≠ b210 := Nat.ne_of_lt (Nat.lt_of_lt_of_le (f199).lt (Nat.le_of_eq g210.symm))
      have ne_b4_b210 : b4 ≠ b210 := Nat.ne_of_lt (Nat.lt_of_lt_of_le (f200).lt (Nat.le_of_eq g210.symm))
      have ne_b20_b210 : b20 ≠ b210 := Nat.ne_of_lt (Nat.lt_of_lt_of_le (f201).lt (Nat.le_of_eq g210.symm))
      have ne_b37_b210 : b37 ≠ b210 := Nat.ne_of_lt (Nat.lt_of_lt_of_le (f202).lt (Nat.le_of_eq g210.symm))
      have ne_b55_b210 : b55 ≠ b210 := Nat.ne_of_lt (Nat.lt_of_lt_of_le (f203).lt (Nat.le_of_eq g210.symm))
      have ne_b74_b210 : b74 ≠ b210 := Nat.ne_of_lt (Nat.lt_of_lt_of_le (f204).lt (Nat.le_of_eq g210.symm))
      have ne_b94_b210 : b94 ≠ b210 := Nat.ne_of_lt (Nat.lt_of_lt_of_le (f205).lt (Nat.le_of_eq g210.symm))
      have ne_epA_b210 : epA ≠ b210 := Nat.ne_of_lt (Nat.lt_of_lt_of_le (f206).lt (Nat.le_of_eq g210.symm))
      have ne_upA_b210 : upA ≠ b210 := Nat.ne_of_lt (Nat.lt_of_lt_of_le (f207).lt (Nat.le_of_eq g210.symm))
      have ne_b159_b210 : b159 ≠ b210 := Nat.ne_of_lt (Nat.lt_of_lt_of_le (f208).lt (Nat.le_of_eq g210.symm))
      have ne_b176_b210 : b176 ≠ b210 := Nat.ne_of_lt (Nat.lt_of_lt_of_le (f209).lt (Nat.le_of_eq g210.symm))
      have ne_b194_b210 : b194 ≠ b210 := Nat.ne_of_lt (Nat.lt_of_lt_of_le (VL197).lt (Nat.le_of_eq g210.symm))
      have VL210 : Arv Z h210 b210 k210 .double (1 : Int32) [(.double 0)] (.double 0) := V210.pad (pad_rep [] (.double 0) 1)
      have K211 : own_K p e below G0 T210 (FX 464 [.val (.ref b159), .val (.ref b176), .val (.ref b194), .unset, .unset, .unset, .unset, .unset, .unset, .unset, .unset, .unset, .unset, .unset, .unset, .unset, .unset, .unset, .unset, .unset, .unset, .unset, .unset] [(.double (FP.i2d ci)), (.int (0 : Int32)), (.ref b210), (.ref b210)]) := by
        intro t kt
        refine K210 t ?_
        refine XS.dup X210.here hx rfl (hb hby at_460) rfl rfl ?_
        show own_S p e below T210 (mkF m 461 _ [(.ref b210), (.ref b210)]) _
        refine XS.iconst X210.here hx rfl (hb hby at_461) ?_
        show own_S p e below T210 (mkF m 462 _ [(.int (0 : Int32)), (.ref b210), (.ref b210)]) _
        refine XS.dload X210.here hx rfl (hb hby at_462) rfl ?_
        show own_S p e below T210 (mkF m 464 _ [(.double (FP.i2d ci)), (.int (0 : Int32)), (.ref b210), (.ref b210)]) _
        exact kt
      obtain ⟨cl212, Ar212, qq212, S212, M212, H212, GG212⟩ := id VL210
      have hin212 : ¬ ((0 : Int32) < 0 ∨ cl212.slots.size ≤ ((0 : Int32)).toNatClampNeg) := inb_of S212 ⟨by decide, by decide⟩
      obtain ⟨T213, h213, X213, e213, W213, st213⟩ := stD X210 hx hZ e210 Ar212 (j := (0 : Int32)) hin212 (g := (FX 464 [.val (.ref b159), .val (.ref b176), .val (.ref b194), .unset, .unset, .unset, .unset, .unset, .unset, .unset, .unset, .unset, .unset, .unset, .unset, .unset, .unset, .unset, .unset, .unset, .unset, .unset, .unset] [(.double (FP.i2d ci)), (.int (0 : Int32)), (.ref b210), (.ref b210)])) rfl rfl (hb hby at_464)
      have K213 : own_K p e below G0 T213 (FX 465 [.val (.ref b159), .val (.ref b176), .val (.ref b194), .unset, .unset, .unset, .unset, .unset, .unset, .unset, .unset, .unset, .unset, .unset, .unset, .unset, .unset, .unset, .unset, .unset, .unset, .unset, .unset] [(.ref b210)]) := fun t kt => K211 t (st213 _ kt)
      have Z213 : n0 ≤ h213.size := Nat.le_trans Z210 (Keep.of_wr W213).1
      have VL213 : Arv Z h213 b210 k210 .double (1 : Int32) [(.double (FP.i2d ci))] (.double 0) := Arv.set Ar212 qq212 S212 M212 H212 GG212 rfl W213 0 rfl (Nat.le_of_ble_eq_true rfl)
      have N213 := Fr.snoc X213 N197 gn210
      have K214 : own_K p e below G0 T213 (FX 467 [.val (.ref b159), .val (.ref b176), .val (.ref b194), .val (.ref b210), .unset, .unset, .unset, .unset, .unset, .unset, .unset, .unset, .unset, .unset, .unset, .unset, .unset, .unset, .unset, .unset, .unset, .unset, .unset] []) := by
        intro t kt
        refine K213 t ?_
        refine XS.astore X213.here hx rfl (hb hby at_465) rfl rfl (l' := (FX 0 [.val (.ref b159), .val (.ref b176), .val (.ref b194), .val (.ref b210), .unset, .unset, .unset, .unset, .unset, .unset, .unset, .unset, .unset, .unset, .unset, .unset, .unset, .unset, .unset, .unset, .unset, .unset, .unset] []).locals) rfl ?_
        show own_S p e below T213 (mkF m 467 _ []) _
        exact kt
      have f215 := (((((((((EA159.wr W162).wr W165).ext E176).wr W179).wr W182).ext E194).wr W197).ext E210).wr W213)
      have f216 := ((((((EA176.wr W179).wr W182).ext E194).wr W197).ext E210).wr W213)
      have f217 := (((EA194.wr W197).ext E210).wr W213)
      have f218 := (EA210.wr W213)
      have f219 := ((f208.ext E210).other W213 ne_b159_b210)
      have f220 := ((f209.ext E210).other W213 ne_b176_b210)
      have f221 := ((VL197.ext E210).other W213 ne_b194_b210)
      exact ⟨_, _, _, b159, b176, b194, b210, false, X213.more (Nat.le_of_ble_eq_true rfl) (Nat.le_of_ble_eq_true rfl), e213, N213, Z213, f215, f216, f217, f218, ⟨_, _, _, _, f219, f220, f221, VL213⟩, K214⟩
    ·
      have K222 : own_K p e below G0 T107 (FX 345 [.unset, .unset, .unset, .unset, .unset, .unset, .unset, .unset, .unset, .unset, .unset, .unset, .unset, .unset, .unset, .unset, .unset, .unset, .unset, .unset, .unset, .unset, .unset] [(.int (3 : Int32))]) := by
        intro t kt
        refine K156 t ?_
        refine XS.ifNo X107.here hx rfl (hb hby at_341) rfl ((if0 _ _).trans (feq hc157).1) ?_
        show own_S p e below T107 (mkF m 344 _ []) _
        refine XS.iconst X107.here hx rfl (hb hby at_344) ?_
        show own_S p e below T107 (mkF m 345 _ [(.int (3 : Int32))]) _
        exact kt
      obtain ⟨T223, h223, k223, X223, e223, E223, A223, EA223, st223⟩ := newPE X107 hx hZ (hw _ (List.mem_of_getElem? (i := 2) rfl)) e107 (g := (FX 345 [.unset, .unset, .unset, .unset, .unset, .unset, .unset, .unset, .unset, .unset, .unset, .unset, .unset, .unset, .unset, .unset, .unset, .unset, .unset, .unset, .unset, .unset, .unset] [(.int (3 : Int32))])) rfl (hb hby at_345) rfl (by decide) (cap := 3) (by decide) (by decide) (by decide) (by decide) (ad := "[I") (by decide)
      obtain ⟨b223, g223⟩ : ∃ z, z = h107.size := ⟨_, rfl⟩
      rw [← g223] at A223 EA223 st223
      have V223 := Arv.new A223 (by decide)
      have gn223 : n0 ≤ b223 := Nat.le_trans Z107 (Nat.le_of_eq g223.symm)
      have Z223 : n0 ≤ h223.size := Nat.le_trans Z107 E223.1
      have K223 : own_K p e below G0 T223 (FX 347 [.unset, .unset, .unset, .unset, .unset, .unset, .unset, .unset, .unset, .unset, .unset, .unset, .unset, .unset, .unset, .unset, .unset, .unset, .unset, .unset, .unset, .unset, .unset] [(.ref b223)]) := fun t kt => K222 t (st223 _ kt)
      have ne_b2_b223 : b2 ≠ b223 := Nat.ne_of_lt (Nat.lt_of_lt_of_le (VL107).lt (Nat.le_of_eq g223.symm))
      have ne_b4_b223 : b4 ≠ b223 := Nat.ne_of_lt (Nat.lt_of_lt_of_le (f109).lt (Nat.le_of_eq g223.symm))
      have ne_b20_b223 : b20 ≠ b223 := Nat.ne_of_lt (Nat.lt_of_lt_of_le (f110).lt (Nat.le_of_eq g223.symm))
      have ne_b37_b223 : b37 ≠ b223 := Nat.ne_of_lt (Nat.lt_of_lt_of_le (f111).lt (Nat.le_of_eq g223.symm))
      have ne_b55_b223 : b55 ≠ b223 := Nat.ne_of_lt (Nat.lt_of_lt_of_le (f112).lt (Nat.le_of_eq g223.symm))
      have ne_b74_b223 : b74 ≠ b223 := Nat.ne_of_lt (Nat.lt_of_lt_of_le (f113).lt (Nat.le_of_eq g223.symm))
      have ne_b94_b223 : b94 ≠ b223 := Nat.ne_of_lt (Nat.lt_of_lt_of_le (f114).lt (Nat.le_of_eq g223.symm))
      have ne_epA_b223 : epA ≠ b223 := Nat.ne_of_lt (Nat.lt_of_lt_of_le (V_epA).lt (Nat.le_of_eq g223.symm))
      have ne_upA_b223 : upA ≠ b223 := Nat.ne_of_lt (Nat.lt_of_lt_of_le (V_upA).lt (Nat.le_of_eq g223.symm))
      have VL223 : Arv Z h223 b223 k223 .int (3 : Int32) [(.int (0 : Int32)), (.int (0 : Int32)), (.int (0 : Int32))] (.int (0 : Int32)) := V223.pad (pad_rep [] (.int (0 : Int32)) 3)
      have K224 : own_K p e below G0 T223 (FX 351 [.unset, .unset, .unset, .unset, .unset, .unset, .unset, .unset, .unset, .unset, .unset, .unset, .unset, .unset, .unset, .unset, .unset, .unset, .unset, .unset, .unset, .unset, .unset] [(.int g0), (.int (0 : Int32)), (.ref b223), (.ref b223)]) := by
        intro t kt
        refine K223 t ?_
        refine XS.dup X223.here hx rfl (hb hby at_347) rfl rfl ?_
        show own_S p e below T223 (mkF m 348 _ [(.ref b223), (.ref b223)]) _
        refine XS.iconst X223.here hx rfl (hb hby at_348) ?_
        show own_S p e below T223 (mkF m 349 _ [(.int (0 : Int32)), (.ref b223), (.ref b223)]) _
        refine XS.iload X223.here hx rfl (hb hby at_349) rfl ?_
        show own_S p e below T223 (mkF m 351 _ [(.int g0), (.int (0 : Int32)), (.ref b223), (.ref b223)]) _
        exact kt
      obtain ⟨cl225, Ar225, qq225, S225, M225, H225, GG225⟩ := id VL223
      have hin225 : ¬ ((0 : Int32) < 0 ∨ cl225.slots.size ≤ ((0 : Int32)).toNatClampNeg) := inb_of S225 ⟨by decide, by decide⟩
      obtain ⟨T226, h226, X226, e226, W226, st226⟩ := stI X223 hx hZ e223 Ar225 (j := (0 : Int32)) hin225 (g := (FX 351 [.unset, .unset, .unset, .unset, .unset, .unset, .unset, .unset, .unset, .unset, .unset, .unset, .unset, .unset, .unset, .unset, .unset, .unset, .unset, .unset, .unset, .unset, .unset] [(.int g0), (.int (0 : Int32)), (.ref b223), (.ref b223)])) rfl rfl (hb hby at_351)
      have K226 : own_K p e below G0 T226 (FX 352 [.unset, .unset, .unset, .unset, .unset, .unset, .unset, .unset, .unset, .unset, .unset, .unset, .unset, .unset, .unset, .unset, .unset, .unset, .unset, .unset, .unset, .unset, .unset] [(.ref b223)]) := fun t kt => K224 t (st226 _ kt)
      have Z226 : n0 ≤ h226.size := Nat.le_trans Z223 (Keep.of_wr W226).1
      have VL226 : Arv Z h226 b223 k223 .int (3 : Int32) [(.int g0), (.int (0 : Int32)), (.int (0 : Int32))] (.int (0 : Int32)) := Arv.set Ar225 qq225 S225 M225 H225 GG225 rfl W226 0 rfl (Nat.le_of_ble_eq_true rfl)
      have N226 := Fr.snoc X226 N107 gn223
      have K227 : own_K p e below G0 T226 (FX 356 [.unset, .unset, .unset, .unset, .unset, .unset, .unset, .unset, .unset, .unset, .unset, .unset, .unset, .unset, .unset, .unset, .unset, .unset, .unset, .unset, .unset, .unset, .unset] [(.int g1), (.int (1 : Int32)), (.ref b223), (.ref b223)]) := by
        intro t kt
        refine K226 t ?_
        refine XS.dup X226.here hx rfl (hb hby at_352) rfl rfl ?_
        show own_S p e below T226 (mkF m 353 _ [(.ref b223), (.ref b223)]) _
        refine XS.iconst X226.here hx rfl (hb hby at_353) ?_
        show own_S p e below T226 (mkF m 354 _ [(.int (1 : Int32)), (.ref b223), (.ref b223)]) _
        refine XS.iload X226.here hx rfl (hb hby at_354) rfl ?_
        show own_S p e below T226 (mkF m 356 _ [(.int g1), (.int (1 : Int32)), (.ref b223), (.ref b223)]) _
        exact kt
      obtain ⟨cl228, Ar228, qq228, S228, M228, H228, GG228⟩ := id VL226
      have hin228 : ¬ ((1 : Int32) < 0 ∨ cl228.slots.size ≤ ((1 : Int32)).toNatClampNeg) := inb_of S228 ⟨by decide, by decide⟩
      obtain ⟨T229, h229, X229, e229, W229, st229⟩ := stI X226 hx hZ e226 Ar228 (j := (1 : Int32)) hin228 (g := (FX 356 [.unset, .unset, .unset, .unset, .unset, .unset, .unset, .unset, .unset, .unset, .unset, .unset, .unset, .unset, .unset, .unset, .unset, .unset, .unset, .unset, .unset, .unset, .unset] [(.int g1), (.int (1 : Int32)), (.ref b223), (.ref b223)])) rfl rfl (hb hby at_356)
      have K229 : own_K p e below G0 T229 (FX 357 [.unset, .unset, .unset, .unset, .unset, .unset, .unset, .unset, .unset, .unset, .unset, .unset, .unset, .unset, .unset, .unset, .unset, .unset, .unset, .unset, .unset, .unset, .unset] [(.ref b223)]) := fun t kt => K227 t (st229 _ kt)
      have Z229 : n0 ≤ h229.size := Nat.le_trans Z226 (Keep.of_wr W229).1
      have VL229 : Arv Z h229 b223 k223 .int (3 : Int32) [(.int g0), (.int g1), (.int (0 : Int32))] (.int (0 : Int32)) := Arv.set Ar228 qq228 S228 M228 H228 GG228 rfl W229 1 rfl (Nat.le_of_ble_eq_true rfl)
      have N229 := Fr.snoc X229 N226 gn223
      have K230 : own_K p e below G0 T229 (FX 361 [.unset, .unset, .unset, .unset, .unset, .unset, .unset, .unset, .unset, .unset, .unset, .unset, .unset, .unset, .unset, .unset, .unset, .unset, .unset, .unset, .unset, .unset, .unset] [(.int gf), (.int (2 : Int32)), (.ref b223), (.ref b223)]) := by
        intro t kt
        refine K229 t ?_
        refine XS.dup X229.here hx rfl (hb hby at_357) rfl rfl ?_
        show own_S p e below T229 (mkF m 358 _ [(.ref b223), (.ref b223)]) _
        refine XS.iconst X229.here hx rfl (hb hby at_358) ?_
        show own_S p e below T229 (mkF m 359 _ [(.int (2 : Int32)), (.ref b223), (.ref b223)]) _
        refine XS.iload X229.here hx rfl (hb hby at_359) rfl ?_
        show own_S p e below T229 (mkF m 361 _ [(.int gf), (.int (2 : Int32)), (.ref b223), (.ref b223)]) _
        exact kt
      obtain ⟨cl231, Ar231, qq231, S231, M231, H231, GG231⟩ := id VL229
      have hin231 : ¬ ((2 : Int32) < 0 ∨ cl231.slots.size ≤ ((2 : Int32)).toNatClampNeg) := inb_of S231 ⟨by decide, by decide⟩
      obtain ⟨T232, h232, X232, e232, W232, st232⟩ := stI X229 hx hZ e229 Ar231 (j := (2 : Int32)) hin231 (g := (FX 361 [.unset, .unset, .unset, .unset, .unset, .unset, .unset, .unset, .unset, .unset, .unset, .unset, .unset, .unset, .unset, .unset, .unset, .unset, .unset, .unset, .unset, .unset, .unset] [(.int gf), (.int (2 : Int32)), (.ref b223), (.ref b223)])) rfl rfl (hb hby at_361)
      have K232 : own_K p e below G0 T232 (FX 362 [.unset, .unset, .unset, .unset, .unset, .unset, .unset, .unset, .unset, .unset, .unset, .unset, .unset, .unset, .unset, .unset, .unset, .unset, .unset, .unset, .unset, .unset, .unset] [(.ref b223)]) := fun t kt => K230 t (st232 _ kt)
      have Z232 : n0 ≤ h232.size := Nat.le_trans Z229 (Keep.of_wr W232).1
      have VL232 : Arv Z h232 b223 k223 .int (3 : Int32) [(.int g0), (.int g1), (.int gf)] (.int (0 : Int32)) := Arv.set Ar231 qq231 S231 M231 H231 GG231 rfl W232 2 rfl (Nat.le_of_ble_eq_true rfl)
      have N232 := Fr.snoc X232 N229 gn223
      have K233 : own_K p e below G0 T232 (FX 365 [.val (.ref b223), .unset, .unset, .unset, .unset, .unset, .unset, .unset, .unset, .unset, .unset, .unset, .unset, .unset, .unset, .unset, .unset, .unset, .unset, .unset, .unset, .unset, .unset] [(.int (3 : Int32))]) := by
        intro t kt
        refine K232 t ?_
        refine XS.astore X232.here hx rfl (hb hby at_362) rfl rfl (l' := (FX 0 [.val (.ref b223), .unset, .unset, .unset, .unset, .unset, .unset, .unset, .unset, .unset, .unset, .unset, .unset, .unset, .unset, .unset, .unset, .unset, .unset, .unset, .unset, .unset, .unset] []).locals) rfl ?_
        show own_S p e below T232 (mkF m 364 _ []) _
        refine XS.iconst X232.here hx rfl (hb hby at_364) ?_
        show own_S p e below T232 (mkF m 365 _ [(.int (3 : Int32))]) _
        exact kt
      have f234 := ((((VL107.ext E223).other W226 ne_b2_b223).other W229 ne_b2_b223).other W232 ne_b2_b223)
      have f235 := ((((f109.ext E223).other W226 ne_b4_b223).other W229 ne_b4_b223).other W232 ne_b4_b223)
      have f236 := ((((f110.ext E223).other W226 ne_b20_b223).other W229 ne_b20_b223).other W232 ne_b20_b223)
      have f237 := ((((f111.ext E223).other W226 ne_b37_b223).other W229 ne_b37_b223).other W232 ne_b37_b223)
      have f238 := ((((f112.ext E223).other W226 ne_b55_b223).other W229 ne_b55_b223).other W232 ne_b55_b223)
      have f239 := ((((f113.ext E223).other W226 ne_b74_b223).other W229 ne_b74_b223).other W232 ne_b74_b223)
      have f240 := ((((f114.ext E223).other W226 ne_b94_b223).other W229 ne_b94_b223).other W232 ne_b94_b223)
      have f241 := ((((V_epA.ext E223).other W226 ne_epA_b223).other W229 ne_epA_b223).other W232 ne_epA_b223)
      have f242 := ((((V_upA.ext E223).other W226 ne_upA_b223).other W229 ne_upA_b223).other W232 ne_upA_b223)
      obtain ⟨T243, h243, k243, X243, e243, E243, A243, EA243, st243⟩ := newPE X232 hx hZ (hw _ (List.mem_of_getElem? (i := 4) rfl)) e232 (g := (FX 365 [.val (.ref b223), .unset, .unset, .unset, .unset, .unset, .unset, .unset, .unset, .unset, .unset, .unset, .unset, .unset, .unset, .unset, .unset, .unset, .unset, .unset, .unset, .unset, .unset] [(.int (3 : Int32))])) rfl (hb hby at_365) rfl (by decide) (cap := 3) (by decide) (by decide) (by decide) (by decide) (ad := "[D") (by decide)
      obtain ⟨b243, g243⟩ : ∃ z, z = h232.size := ⟨_, rfl⟩
      rw [← g243] at A243 EA243 st243
      have V243 := Arv.new A243 (by decide)
      have gn243 : n0 ≤ b243 := Nat.le_trans Z232 (Nat.le_of_eq g243.symm)
      have Z243 : n0 ≤ h243.size := Nat.le_trans Z232 E243.1
      have K243 : own_K p e below G0 T243 (FX 367 [.val (.ref b223), .unset, .unset, .unset, .unset, .unset, .unset, .unset, .unset, .unset, .unset, .unset, .unset, .unset, .unset, .unset, .unset, .unset, .unset, .unset, .unset, .unset, .unset] [(.ref b243)]) := fun t kt => K233 t (st243 _ kt)
      have ne_b2_b243 : b2 ≠ b243 := Nat.ne_of_lt (Nat.lt_of_lt_of_le (f234).lt (Nat.le_of_eq g243.symm))
      have ne_b4_b243 : b4 ≠ b243 := Nat.ne_of_lt (Nat.lt_of_lt_of_le (f235).lt (Nat.le_of_eq g243.symm))
      have ne_b20_b243 : b20 ≠ b243 := Nat.ne_of_lt (Nat.lt_of_lt_of_le (f236).lt (Nat.le_of_eq g243.symm))
      have ne_b37_b243 : b37 ≠ b243 := Nat.ne_of_lt (Nat.lt_of_lt_of_le (f237).lt (Nat.le_of_eq g243.symm))
      have ne_b55_b243 : b55 ≠ b243 := Nat.ne_of_lt (Nat.lt_of_lt_of_le (f238).lt (Nat.le_of_eq g243.symm))
      have ne_b74_b243 : b74 ≠ b243 := Nat.ne_of_lt (Nat.lt_of_lt_of_le (f239).lt (Nat.le_of_eq g243.symm))
      have ne_b94_b243 : b94 ≠ b243 := Nat.ne_of_lt (Nat.lt_of_lt_of_le (f240).lt (Nat.le_of_eq g243.symm))
      have ne_epA_b243 : epA ≠ b243 := Nat.ne_of_lt (Nat.lt_of_lt_of_le (f241).lt (Nat.le_of_eq g243.symm))
      have ne_upA_b243 : upA ≠ b243 := Nat.ne_of_lt (Nat.lt_of_lt_of_le (f242).lt (Nat.le_of_eq g243.symm))
      have ne_b223_b243 : b223 ≠ b243 := Nat.ne_of_lt (Nat.lt_of_lt_of_le (VL232).lt (Nat.le_of_eq g243.symm))
      have VL243 : Arv Z h243 b243 k243 .double (3 : Int32) [(.double 0), (.double 0), (.double 0)] (.double 0) := V243.pad (pad_rep [] (.double 0) 3)
      have K244 : own_K p e below G0 T243 (FX 371 [.val (.ref b223), .unset, .unset, .unset, .unset, .unset, .unset, .unset, .unset, .unset, .unset, .unset, .unset, .unset, .unset, .unset, .unset, .unset, .unset, .unset, .unset, .unset, .unset] [(.double (FP.i2d ai)), (.int (0 : Int32)), (.ref b243), (.ref b243)]) := by
        intro t kt
        refine K243 t ?_
        refine XS.dup X243.here hx rfl (hb hby at_367) rfl rfl ?_
        show own_S p e below T243 (mkF m 368 _ [(.ref b243), (.ref b243)]) _
        refine XS.iconst X243.here hx rfl (hb hby at_368) ?_
        show own_S p e below T243 (mkF m 369 _ [(.int (0 : Int32)), (.ref b243), (.ref b243)]) _
        refine XS.dload X243.here hx rfl (hb hby at_369) rfl ?_
        show own_S p e below T243 (mkF m 371 _ [(.double (FP.i2d ai)), (.int (0 : Int32)), (.ref b243), (.ref b243)]) _
        exact kt
      obtain ⟨cl245, Ar245, qq245, S245, M245, H245, GG245⟩ := id VL243
      have hin245 : ¬ ((0 : Int32) < 0 ∨ cl245.slots.size ≤ ((0 : Int32)).toNatClampNeg) := inb_of S245 ⟨by decide, by decide⟩
      obtain ⟨T246, h246, X246, e246, W246, st246⟩ := stD X243 hx hZ e243 Ar245 (j := (0 : Int32)) hin245 (g := (FX 371 [.val (.ref b223), .unset, .unset, .unset, .unset, .unset, .unset, .unset, .unset, .unset, .unset, .unset, .unset, .unset, .unset, .unset, .unset, .unset, .unset, .unset, .unset, .unset, .unset] [(.double (FP.i2d ai)), (.int (0 : Int32)), (.ref b243), (.ref b243)])) rfl rfl (hb hby at_371)
      have K246 : own_K p e below G0 T246 (FX 372 [.val (.ref b223), .unset, .unset, .unset, .unset, .unset, .unset, .unset, .unset, .unset, .unset, .unset, .unset, .unset, .unset, .unset, .unset, .unset, .unset, .unset, .unset, .unset, .unset] [(.ref b243)]) := fun t kt => K244 t (st246 _ kt)
      have Z246 : n0 ≤ h246.size := Nat.le_trans Z243 (Keep.of_wr W246).1
      have VL246 : Arv Z h246 b243 k243 .double (3 : Int32) [(.double (FP.i2d ai)), (.double 0), (.double 0)] (.double 0) := Arv.set Ar245 qq245 S245 M245 H245 GG245 rfl W246 0 rfl (Nat.le_of_ble_eq_true rfl)
      have N246 := Fr.snoc X246 N232 gn243
      have K247 : own_K p e below G0 T246 (FX 376 [.val (.ref b223), .unset, .unset, .unset, .unset, .unset, .unset, .unset, .unset, .unset, .unset, .unset, .unset, .unset, .unset, .unset, .unset, .unset, .unset, .unset, .unset, .unset, .unset] [(.double (FP.i2d bi)), (.int (1 : Int32)), (.ref b243), (.ref b243)]) := by
        intro t kt
        refine K246 t ?_
        refine XS.dup X246.here hx rfl (hb hby at_372) rfl rfl ?_
        show own_S p e below T246 (mkF m 373 _ [(.ref b243), (.ref b243)]) _
        refine XS.iconst X246.here hx rfl (hb hby at_373) ?_
        show own_S p e below T246 (mkF m 374 _ [(.int (1 : Int32)), (.ref b243), (.ref b243)]) _
        refine XS.dload X246.here hx rfl (hb hby at_374) rfl ?_
        show own_S p e below T246 (mkF m 376 _ [(.double (FP.i2d bi)), (.int (1 : Int32)), (.ref b243), (.ref b243)]) _
        exact kt
      obtain ⟨cl248, Ar248, qq248, S248, M248, H248, GG248⟩ := id VL246
      have hin248 : ¬ ((1 : Int32) < 0 ∨ cl248.slots.size ≤ ((1 : Int32)).toNatClampNeg) := inb_of S248 ⟨by decide, by decide⟩
      obtain ⟨T249, h249, X249, e249, W249, st249⟩ := stD X246 hx hZ e246 Ar248 (j := (1 : Int32)) hin248 (g := (FX 376 [.val (.ref b223), .unset, .unset, .unset, .unset, .unset, .unset, .unset, .unset, .unset, .unset, .unset, .unset, .unset, .unset, .unset, .unset, .unset, .unset, .unset, .unset, .unset, .unset] [(.double (FP.i2d bi)), (.int (1 : Int32)), (.ref b243), (.ref b243)])) rfl rfl (hb hby at_376)
      have K249 : own_K p e below G0 T249 (FX 377 [.val (.ref b223), .unset, .unset, .unset, .unset, .unset, .unset, .unset, .unset, .unset, .unset, .unset, .unset, .unset, .unset, .unset, .unset, .unset, .unset, .unset, .unset, .unset, .unset] [(.ref b243)]) := fun t kt => K247 t (st249 _ kt)
      have Z249 : n0 ≤ h249.size := Nat.le_trans Z246 (Keep.of_wr W249).1
      have VL249 : Arv Z h249 b243 k243 .double (3 : Int32) [(.double (FP.i2d ai)), (.double (FP.i2d bi)), (.double 0)] (.double 0) := Arv.set Ar248 qq248 S248 M248 H248 GG248 rfl W249 1 rfl (Nat.le_of_ble_eq_true rfl)
      have N249 := Fr.snoc X249 N246 gn243
      have K250 : own_K p e below G0 T249 (FX 381 [.val (.ref b223), .unset, .unset, .unset, .unset, .unset, .unset, .unset, .unset, .unset, .unset, .unset, .unset, .unset, .unset, .unset, .unset, .unset, .unset, .unset, .unset, .unset, .unset] [(.double (FP.i2d di)), (.int (2 : Int32)), (.ref b243), (.ref b243)]) := by
        intro t kt
        refine K249 t ?_
        refine XS.dup X249.here hx rfl (hb hby at_377) rfl rfl ?_
        show own_S p e below T249 (mkF m 378 _ [(.ref b243), (.ref b243)]) _
        refine XS.iconst X249.here hx rfl (hb hby at_378) ?_
        show own_S p e below T249 (mkF m 379 _ [(.int (2 : Int32)), (.ref b243), (.ref b243)]) _
        refine XS.dload X249.here hx rfl (hb hby at_379) rfl ?_
        show own_S p e below T249 (mkF m 381 _ [(.double (FP.i2d di)), (.int (2 : Int32)), (.ref b243), (.ref b243)]) _
        exact kt
      obtain ⟨cl251, Ar251, qq251, S251, M251, H251, GG251⟩ := id VL249
      have hin251 : ¬ ((2 : Int32) < 0 ∨ cl251.slots.size ≤ ((2 : Int32)).toNatClampNeg) := inb_of S251 ⟨by decide, by decide⟩
      obtain ⟨T252, h252, X252, e252, W252, st252⟩ := stD X249 hx hZ e249 Ar251 (j := (2 : Int32)) hin251 (g := (FX 381 [.val (.ref b223), .unset, .unset, .unset, .unset, .unset, .unset, .unset, .unset, .unset, .unset, .unset, .unset, .unset, .unset, .unset, .unset, .unset, .unset, .unset, .unset, .unset, .unset] [(.double (FP.i2d di)), (.int (2 : Int32)), (.ref b243), (.ref b243)])) rfl rfl (hb hby at_381)
      have K252 : own_K p e below G0 T252 (FX 382 [.val (.ref b223), .unset, .unset, .unset, .unset, .unset, .unset, .unset, .unset, .unset, .unset, .unset, .unset, .unset, .unset, .unset, .unset, .unset, .unset, .unset, .unset, .unset, .unset] [(.ref b243)]) := fun t kt => K250 t (st252 _ kt)
      have Z252 : n0 ≤ h252.size := Nat.le_trans Z249 (Keep.of_wr W252).1
      have VL252 : Arv Z h252 b243 k243 .double (3 : Int32) [(.double (FP.i2d ai)), (.double (FP.i2d bi)), (.double (FP.i2d di))] (.double 0) := Arv.set Ar251 qq251 S251 M251 H251 GG251 rfl W252 2 rfl (Nat.le_of_ble_eq_true rfl)
      have N252 := Fr.snoc X252 N249 gn243
      have K253 : own_K p e below G0 T252 (FX 385 [.val (.ref b223), .val (.ref b243), .unset, .unset, .unset, .unset, .unset, .unset, .unset, .unset, .unset, .unset, .unset, .unset, .unset, .unset, .unset, .unset, .unset, .unset, .unset, .unset, .unset] [(.int (2 : Int32))]) := by
        intro t kt
        refine K252 t ?_
        refine XS.astore X252.here hx rfl (hb hby at_382) rfl rfl (l' := (FX 0 [.val (.ref b223), .val (.ref b243), .unset, .unset, .unset, .unset, .unset, .unset, .unset, .unset, .unset, .unset, .unset, .unset, .unset, .unset, .unset, .unset, .unset, .unset, .unset, .unset, .unset] []).locals) rfl ?_
        show own_S p e below T252 (mkF m 384 _ []) _
        refine XS.iconst X252.here hx rfl (hb hby at_384) ?_
        show own_S p e below T252 (mkF m 385 _ [(.int (2 : Int32))]) _
        exact kt
      have f254 := ((((f234.ext E243).other W246 ne_b2_b243).other W249 ne_b2_b243).other W252 ne_b2_b243)
      have f255 := ((((f235.ext E243).other W246 ne_b4_b243).other W249 ne_b4_b243).other W252 ne_b4_b243)
      have f256 := ((((f236.ext E243).other W246 ne_b20_b243).other W249 ne_b20_b243).other W252 ne_b20_b243)
      have f257 := ((((f237.ext E243).other W246 ne_b37_b243).other W249 ne_b37_b243).other W252 ne_b37_b243)
      have f258 := ((((f238.ext E243).other W246 ne_b55_b243).other W249 ne_b55_b243).other W252 ne_b55_b243)
      have f259 := ((((f239.ext E243).other W246 ne_b74_b243).other W249 ne_b74_b243).other W252 ne_b74_b243)
      have f260 := ((((f240.ext E243).other W246 ne_b94_b243).other W249 ne_b94_b243).other W252 ne_b94_b243)
      have f261 := ((((f241.ext E243).other W246 ne_epA_b243).other W249 ne_epA_b243).other W252 ne_epA_b243)
      have f262 := ((((f242.ext E243).other W246 ne_upA_b243).other W249 ne_upA_b243).other W252 ne_upA_b243)
      have f263 := ((((VL232.ext E243).other W246 ne_b223_b243).other W249 ne_b223_b243).other W252 ne_b223_b243)
      obtain ⟨T264, h264, k264, X264, e264, E264, A264, EA264, st264⟩ := newPE X252 hx hZ (hw _ (List.mem_of_getElem? (i := 2) rfl)) e252 (g := (FX 385 [.val (.ref b223), .val (.ref b243), .unset, .unset, .unset, .unset, .unset, .unset, .unset, .unset, .unset, .unset, .unset, .unset, .unset, .unset, .unset, .unset, .unset, .unset, .unset, .unset, .unset] [(.int (2 : Int32))])) rfl (hb hby at_385) rfl (by decide) (cap := 2) (by decide) (by decide) (by decide) (by decide) (ad := "[I") (by decide)
      obtain ⟨b264, g264⟩ : ∃ z, z = h252.size := ⟨_, rfl⟩
      rw [← g264] at A264 EA264 st264
      have V264 := Arv.new A264 (by decide)
      have gn264 : n0 ≤ b264 := Nat.le_trans Z252 (Nat.le_of_eq g264.symm)
      have Z264 : n0 ≤ h264.size := Nat.le_trans Z252 E264.1
      have K264 : own_K p e below G0 T264 (FX 387 [.val (.ref b223), .val (.ref b243), .unset, .unset, .unset, .unset, .unset, .unset, .unset, .unset, .unset, .unset, .unset, .unset, .unset, .unset, .unset, .unset, .unset, .unset, .unset, .unset, .unset] [(.ref b264)]) := fun t kt => K253 t (st264 _ kt)
      have ne_b2_b264 : b2 ≠ b264 := Nat.ne_of_lt (Nat.lt_of_lt_of_le (f254).lt (Nat.le_of_eq g264.symm))
      have ne_b4_b264 : b4 ≠ b264 := Nat.ne_of_lt (Nat.lt_of_lt_of_le (f255).lt (Nat.le_of_eq g264.symm))
      have ne_b20_b264 : b20 ≠ b264 := Nat.ne_of_lt (Nat.lt_of_lt_of_le (f256).lt (Nat.le_of_eq g264.symm))
      have ne_b37_b264 : b37 ≠ b264 := Nat.ne_of_lt (Nat.lt_of_lt_of_le (f257).lt (Nat.le_of_eq g264.symm))
      have ne_b55_b264 : b55 ≠ b264 := Nat.ne_of_lt (Nat.lt_of_lt_of_le (f258).lt (Nat.le_of_eq g264.symm))
      have ne_b74_b264 : b74 ≠ b264 := Nat.ne_of_lt (Nat.lt_of_lt_of_le (f259).lt (Nat.le_of_eq g264.symm))
      have ne_b94_b264 : b94 ≠ b264 := Nat.ne_of_lt (Nat.lt_of_lt_of_le (f260).lt (Nat.le_of_eq g264.symm))
      have ne_epA_b264 : epA ≠ b264 := Nat.ne_of_lt (Nat.lt_of_lt_of_le (f261).lt (Nat.le_of_eq g264.symm))
      have ne_upA_b264 : upA ≠ b264 := Nat.ne_of_lt (Nat.lt_of_lt_of_le (f262).lt (Nat.le_of_eq g264.symm))
      have ne_b223_b264 : b223 ≠ b264 := Nat.ne_of_lt (Nat.lt_of_lt_of_le (f263).lt (Nat.le_of_eq g264.symm))
      have ne_b243_b264 : b243 ≠ b264 := Nat.ne_of_lt (Nat.lt_of_lt_of_le (VL252).lt (Nat.le_of_eq g264.symm))
      have VL264 : Arv Z h264 b264 k264 .int (2 : Int32) [(.int (0 : Int32)), (.int (0 : Int32))] (.int (0 : Int32)) := V264.pad (pad_rep [] (.int (0 : Int32)) 2)
      have K265 : own_K p e below G0 T264 (FX 391 [.val (.ref b223), .val (.ref b243), .unset, .unset, .unset, .unset, .unset, .unset, .unset, .unset, .unset, .unset, .unset, .unset, .unset, .unset, .unset, .unset, .unset, .unset, .unset, .unset, .unset] [(.int g1), (.int (0 : Int32)), (.ref b264), (.ref b264)]) := by
        intro t kt
        refine K264 t ?_
        refine XS.dup X264.here hx rfl (hb hby at_387) rfl rfl ?_
        show own_S p e below T264 (mkF m 388 _ [(.ref b264), (.ref b264)]) _
        refine XS.iconst X264.here hx rfl (hb hby at_388) ?_
        show own_S p e below T264 (mkF m 389 _ [(.int (0 : Int32)), (.ref b264), (.ref b264)]) _
        refine XS.iload X264.here hx rfl (hb hby at_389) rfl ?_
        show own_S p e below T264 (mkF m 391 _ [(.int g1), (.int (0 : Int32)), (.ref b264), (.ref b264)]) _
        exact kt
      obtain ⟨cl266, Ar266, qq266, S266, M266, H266, GG266⟩ := id VL264
      have hin266 : ¬ ((0 : Int32) < 0 ∨ cl266.slots.size ≤ ((0 : Int32)).toNatClampNeg) := inb_of S266 ⟨by decide, by decide⟩
      obtain ⟨T267, h267, X267, e267, W267, st267⟩ := stI X264 hx hZ e264 Ar266 (j := (0 : Int32)) hin266 (g := (FX 391 [.val (.ref b223), .val (.ref b243), .unset, .unset, .unset, .unset, .unset, .unset, .unset, .unset, .unset, .unset, .unset, .unset, .unset, .unset, .unset, .unset, .unset, .unset, .unset, .unset, .unset] [(.int g1), (.int (0 : Int32)), (.ref b264), (.ref b264)])) rfl rfl (hb hby at_391)
      have K267 : own_K p e below G0 T267 (FX 392 [.val (.ref b223), .val (.ref b243), .unset, .unset, .unset, .unset, .unset, .unset, .unset, .unset, .unset, .unset, .unset, .unset, .unset, .unset, .unset, .unset, .unset, .unset, .unset, .unset, .unset] [(.ref b264)]) := fun t kt => K265 t (st267 _ kt)
      have Z267 : n0 ≤ h267.size := Nat.le_trans Z264 (Keep.of_wr W267).1
      have VL267 : Arv Z h267 b264 k264 .int (2 : Int32) [(.int g1), (.int (0 : Int32))] (.int (0 : Int32)) := Arv.set Ar266 qq266 S266 M266 H266 GG266 rfl W267 0 rfl (Nat.le_of_ble_eq_true rfl)
      have N267 := Fr.snoc X267 N252 gn264
      have K268 : own_K p e below G0 T267 (FX 396 [.val (.ref b223), .val (.ref b243), .unset, .unset, .unset, .unset, .unset, .unset, .unset, .unset, .unset, .unset, .unset, .unset, .unset, .unset, .unset, .unset, .unset, .unset, .unset, .unset, .unset] [(.int gf), (.int (1 : Int32)), (.ref b264), (.ref b264)]) := by
        intro t kt
        refine K267 t ?_
        refine XS.dup X267.here hx rfl (hb hby at_392) rfl rfl ?_
        show own_S p e below T267 (mkF m 393 _ [(.ref b264), (.ref b264)]) _
        refine XS.iconst X267.here hx rfl (hb hby at_393) ?_
        show own_S p e below T267 (mkF m 394 _ [(.int (1 : Int32)), (.ref b264), (.ref b264)]) _
        refine XS.iload X267.here hx rfl (hb hby at_394) rfl ?_
        show own_S p e below T267 (mkF m 396 _ [(.int gf), (.int (1 : Int32)), (.ref b264), (.ref b264)]) _
        exact kt
      obtain ⟨cl269, Ar269, qq269, S269, M269, H269, GG269⟩ := id VL267
      have hin269 : ¬ ((1 : Int32) < 0 ∨ cl269.slots.size ≤ ((1 : Int32)).toNatClampNeg) := inb_of S269 ⟨by decide, by decide⟩
      obtain ⟨T270, h270, X270, e270, W270, st270⟩ := stI X267 hx hZ e267 Ar269 (j := (1 : Int32)) hin269 (g := (FX 396 [.val (.ref b223), .val (.ref b243), .unset, .unset, .unset, .unset, .unset, .unset, .unset, .unset, .unset, .unset, .unset, .unset, .unset, .unset, .unset, .unset, .unset, .unset, .unset, .unset, .unset] [(.int gf), (.int (1 : Int32)), (.ref b264), (.ref b264)])) rfl rfl (hb hby at_396)
      have K270 : own_K p e below G0 T270 (FX 397 [.val (.ref b223), .val (.ref b243), .unset, .unset, .unset, .unset, .unset, .unset, .unset, .unset, .unset, .unset, .unset, .unset, .unset, .unset, .unset, .unset, .unset, .unset, .unset, .unset, .unset] [(.ref b264)]) := fun t kt => K268 t (st270 _ kt)
      have Z270 : n0 ≤ h270.size := Nat.le_trans Z267 (Keep.of_wr W270).1
      have VL270 : Arv Z h270 b264 k264 .int (2 : Int32) [(.int g1), (.int gf)] (.int (0 : Int32)) := Arv.set Ar269 qq269 S269 M269 H269 GG269 rfl W270 1 rfl (Nat.le_of_ble_eq_true rfl)
      have N270 := Fr.snoc X270 N267 gn264
      have K271 : own_K p e below G0 T270 (FX 400 [.val (.ref b223), .val (.ref b243), .val (.ref b264), .unset, .unset, .unset, .unset, .unset, .unset, .unset, .unset, .unset, .unset, .unset, .unset, .unset, .unset, .unset, .unset, .unset, .unset, .unset, .unset] [(.int (2 : Int32))]) := by
        intro t kt
        refine K270 t ?_
        refine XS.astore X270.here hx rfl (hb hby at_397) rfl rfl (l' := (FX 0 [.val (.ref b223), .val (.ref b243), .val (.ref b264), .unset, .unset, .unset, .unset, .unset, .unset, .unset, .unset, .unset, .unset, .unset, .unset, .unset, .unset, .unset, .unset, .unset, .unset, .unset, .unset] []).locals) rfl ?_
        show own_S p e below T270 (mkF m 399 _ []) _
        refine XS.iconst X270.here hx rfl (hb hby at_399) ?_
        show own_S p e below T270 (mkF m 400 _ [(.int (2 : Int32))]) _
        exact kt
      have f272 := (((f254.ext E264).other W267 ne_b2_b264).other W270 ne_b2_b264)
      have f273 := (((f255.ext E264).other W267 ne_b4_b264).other W270 ne_b4_b264)
      have f274 := (((f256.ext E264).other W267 ne_b20_b264).other W270 ne_b20_b264)
      have f275 := (((f257.ext E264).other W267 ne_b37_b264).other W270 ne_b37_b264)
      have f276 := (((f258.ext E264).other W267 ne_b55_b264).other W270 ne_b55_b264)
      have f277 := (((f259.ext E264).other W267 ne_b74_b264).other W270 ne_b74_b264)
      have f278 := (((f260.ext E264).other W267 ne_b94_b264).other W270 ne_b94_b264)
      have f279 := (((f261.ext E264).other W267 ne_epA_b264).other W270 ne_epA_b264)
      have f280 := (((f262.ext E264).other W267 ne_upA_b264).other W270 ne_upA_b264)
      have f281 := (((f263.ext E264).other W267 ne_b223_b264).other W270 ne_b223_b264)
      have f282 := (((VL252.ext E264).other W267 ne_b243_b264).other W270 ne_b243_b264)
      obtain ⟨T283, h283, k283, X283, e283, E283, A283, EA283, st283⟩ := newPE X270 hx hZ (hw _ (List.mem_of_getElem? (i := 4) rfl)) e270 (g := (FX 400 [.val (.ref b223), .val (.ref b243), .val (.ref b264), .unset, .unset, .unset, .unset, .unset, .unset, .unset, .unset, .unset, .unset, .unset, .unset, .unset, .unset, .unset, .unset, .unset, .unset, .unset, .unset] [(.int (2 : Int32))])) rfl (hb hby at_400) rfl (by decide) (cap := 2) (by decide) (by decide) (by decide) (by decide) (ad := "[D") (by decide)
      obtain ⟨b283, g283⟩ : ∃ z, z = h270.size := ⟨_, rfl⟩
      rw [← g283] at A283 EA283 st283
      have V283 := Arv.new A283 (by decide)
      have gn283 : n0 ≤ b283 := Nat.le_trans Z270 (Nat.le_of_eq g283.symm)
      have Z283 : n0 ≤ h283.size := Nat.le_trans Z270 E283.1
      have K283 : own_K p e below G0 T283 (FX 402 [.val (.ref b223), .val (.ref b243), .val (.ref b264), .unset, .unset, .unset, .unset, .unset, .unset, .unset, .unset, .unset, .unset, .unset, .unset, .unset, .unset, .unset, .unset, .unset, .unset, .unset, .unset] [(.ref b283)]) := fun t kt => K271 t (st283 _ kt)
      have ne_b2_b283 : b2 ≠ b283 := Nat.ne_of_lt (Nat.lt_of_lt_of_le (f272).lt (Nat.le_of_eq g283.symm))
      have ne_b4_b283 : b4 ≠ b283 := Nat.ne_of_lt (Nat.lt_of_lt_of_le (f273).lt (Nat.le_of_eq g283.symm))
      have ne_b20_b283 : b20 ≠ b283 := Nat.ne_of_lt (Nat.lt_of_lt_of_le (f274).lt (Nat.le_of_eq g283.symm))
      have ne_b37_b283 : b37 ≠ b283 := Nat.ne_of_lt (Nat.lt_of_lt_of_le (f275).lt (Nat.le_of_eq g283.symm))
      have ne_b55_b283 : b55 ≠ b283 := Nat.ne_of_lt (Nat.lt_of_lt_of_le (f276).lt (Nat.le_of_eq g283.symm))
      have ne_b74_b283 : b74 ≠ b283 := Nat.ne_of_lt (Nat.lt_of_lt_of_le (f277).lt (Nat.le_of_eq g283.symm))
      have ne_b94_b283 : b94 ≠ b283 := Nat.ne_of_lt (Nat.lt_of_lt_of_le (f278).lt (Nat.le_of_eq g283.symm))
      have ne_epA_b283 : epA ≠ b283 := Nat.ne_of_lt (Nat.lt_of_lt_of_le (f279).lt (Nat.le_of_eq g283.symm))
      have ne_upA_b283 : upA ≠ b283 := Nat.ne_of_lt (Nat.lt_of_lt_of_le (f280).lt (Nat.le_of_eq g283.symm))
      have ne_b223_b283 : b223 ≠ b283 := Nat.ne_of_lt (Nat.lt_of_lt_of_le (f281).lt (Nat.le_of_eq g283.symm))
      have ne_b243_b283 : b243 ≠ b283 := Nat.ne_of_lt (Nat.lt_of_lt_of_le (f282).lt (Nat.le_of_eq g283.symm))
      have ne_b264_b283 : b264 ≠ b283 := Nat.ne_of_lt (Nat.lt_of_lt_of_le (VL270).lt (Nat.le_of_eq g283.symm))
      have VL283 : Arv Z h283 b283 k283 .double (2 : Int32) [(.double 0), (.double 0)] (.double 0) := V283.pad (pad_rep [] (.double 0) 2)
      have K284 : own_K p e below G0 T283 (FX 406 [.val (.ref b223), .val (.ref b243), .val (.ref b264), .unset, .unset, .unset, .unset, .unset, .unset, .unset, .unset, .unset, .unset, .unset, .unset, .unset, .unset, .unset, .unset, .unset, .unset, .unset, .unset] [(.double (FP.i2d ci)), (.int (0 : Int32)), (.ref b283), (.ref b283)]) := by
        intro t kt
        refine K283 t ?_
        refine XS.dup X283.here hx rfl (hb hby at_402) rfl rfl ?_
        show own_S p e below T283 (mkF m 403 _ [(.ref b283), (.ref b283)]) _
        refine XS.iconst X283.here hx rfl (hb hby at_403) ?_
        show own_S p e below T283 (mkF m 404 _ [(.int (0 : Int32)), (.ref b283), (.ref b283)]) _
        refine XS.dload X283.here hx rfl (hb hby at_404) rfl ?_
        show own_S p e below T283 (mkF m 406 _ [(.double (FP.i2d ci)), (.int (0 : Int32)), (.ref b283), (.ref b283)]) _
        exact kt
      obtain ⟨cl285, Ar285, qq285, S285, M285, H285, GG285⟩ := id VL283
      have hin285 : ¬ ((0 : Int32) < 0 ∨ cl285.slots.size ≤ ((0 : Int32)).toNatClampNeg) := inb_of S285 ⟨by decide, by decide⟩
      obtain ⟨T286, h286, X286, e286, W286, st286⟩ := stD X283 hx hZ e283 Ar285 (j := (0 : Int32)) hin285 (g := (FX 406 [.val (.ref b223), .val (.ref b243), .val (.ref b264), .unset, .unset, .unset, .unset, .unset, .unset, .unset, .unset, .unset, .unset, .unset, .unset, .unset, .unset, .unset, .unset, .unset, .unset, .unset, .unset] [(.double (FP.i2d ci)), (.int (0 : Int32)), (.ref b283), (.ref b283)])) rfl rfl (hb hby at_406)
      have K286 : own_K p e below G0 T286 (FX 407 [.val (.ref b223), .val (.ref b243), .val (.ref b264), .unset, .unset, .unset, .unset, .unset, .unset, .unset, .unset, .unset, .unset, .unset, .unset, .unset, .unset, .unset, .unset, .unset, .unset, .unset, .unset] [(.ref b283)]) := fun t kt => K284 t (st286 _ kt)
      have Z286 : n0 ≤ h286.size := Nat.le_trans Z283 (Keep.of_wr W286).1
      have VL286 : Arv Z h286 b283 k283 .double (2 : Int32) [(.double (FP.i2d ci)), (.double 0)] (.double 0) := Arv.set Ar285 qq285 S285 M285 H285 GG285 rfl W286 0 rfl (Nat.le_of_ble_eq_true rfl)
      have N286 := Fr.snoc X286 N270 gn283
      have K287 : own_K p e below G0 T286 (FX 411 [.val (.ref b223), .val (.ref b243), .val (.ref b264), .unset, .unset, .unset, .unset, .unset, .unset, .unset, .unset, .unset, .unset, .unset, .unset, .unset, .unset, .unset, .unset, .unset, .unset, .unset, .unset] [(.double (FP.i2d di)), (.int (1 : Int32)), (.ref b283), (.ref b283)]) := by
        intro t kt
        refine K286 t ?_
        refine XS.dup X286.here hx rfl (hb hby at_407) rfl rfl ?_
        show own_S p e below T286 (mkF m 408 _ [(.ref b283), (.ref b283)]) _
        refine XS.iconst X286.here hx rfl (hb hby at_408) ?_
        show own_S p e below T286 (mkF m 409 _ [(.int (1 : Int32)), (.ref b283), (.ref b283)]) _
        refine XS.dload X286.here hx rfl (hb hby at_409) rfl ?_
        show own_S p e below T286 (mkF m 411 _ [(.double (FP.i2d di)), (.int (1 : Int32)), (.ref b283), (.ref b283)]) _
        exact kt
      obtain ⟨cl288, Ar288, qq288, S288, M288, H288, GG288⟩ := id VL286
      have hin288 : ¬ ((1 : Int32) < 0 ∨ cl288.slots.size ≤ ((1 : Int32)).toNatClampNeg) := inb_of S288 ⟨by decide, by decide⟩
      obtain ⟨T289, h289, X289, e289, W289, st289⟩ := stD X286 hx hZ e286 Ar288 (j := (1 : Int32)) hin288 (g := (FX 411 [.val (.ref b223), .val (.ref b243), .val (.ref b264), .unset, .unset, .unset, .unset, .unset, .unset, .unset, .unset, .unset, .unset, .unset, .unset, .unset, .unset, .unset, .unset, .unset, .unset, .unset, .unset] [(.double (FP.i2d di)), (.int (1 : Int32)), (.ref b283), (.ref b283)])) rfl rfl (hb hby at_411)
      have K289 : own_K p e below G0 T289 (FX 412 [.val (.ref b223), .val (.ref b243), .val (.ref b264), .unset, .unset, .unset, .unset, .unset, .unset, .unset, .unset, .unset, .unset, .unset, .unset, .unset, .unset, .unset, .unset, .unset, .unset, .unset, .unset] [(.ref b283)]) := fun t kt => K287 t (st289 _ kt)
      have Z289 : n0 ≤ h289.size := Nat.le_trans Z286 (Keep.of_wr W289).1
      have VL289 : Arv Z h289 b283 k283 .double (2 : Int32) [(.double (FP.i2d ci)), (.double (FP.i2d di))] (.double 0) := Arv.set Ar288 qq288 S288 M288 H288 GG288 rfl W289 1 rfl (Nat.le_of_ble_eq_true rfl)
      have N289 := Fr.snoc X289 N286 gn283
      have K290 : own_K p e below G0 T289 (FX 467 [.val (.ref b223), .val (.ref b243), .val (.ref b264), .val (.ref b283), .unset, .unset, .unset, .unset, .unset, .unset, .unset, .unset, .unset, .unset, .unset, .unset, .unset, .unset, .unset, .unset, .unset, .unset, .unset] []) := by
        intro t kt
        refine K289 t ?_
        refine XS.astore X289.here hx rfl (hb hby at_412) rfl rfl (l' := (FX 0 [.val (.ref b223), .val (.ref b243), .val (.ref b264), .val (.ref b283), .unset, .unset, .unset, .unset, .unset, .unset, .unset, .unset, .unset, .unset, .unset, .unset, .unset, .unset, .unset, .unset, .unset, .unset, .unset] []).locals) rfl ?_
        show own_S p e below T289 (mkF m 414 _ []) _
        refine XS.goto X289.here hx rfl (pc0 := 414) (pc' := 467) rfl (hb hby at_414) (by decide) (by decide) ?_
        show own_S p e below T289 (mkF m 467 _ []) _
        exact kt
      have f291 := (((((((((((((EA223.wr W226).wr W229).wr W232).ext E243).wr W246).wr W249).wr W252).ext E264).wr W267).wr W270).ext E283).wr W286).wr W289)
      have f292 := (((((((((EA243.wr W246).wr W249).wr W252).ext E264).wr W267).wr W270).ext E283).wr W286).wr W289)
      have f293 := (((((EA264.wr W267).wr W270).ext E283).wr W286).wr W289)
      have f294 := ((EA283.wr W286).wr W289)
      have f295 := (((f281.ext E283).other W286 ne_b223_b283).other W289 ne_b223_b283)
      have f296 := (((f282.ext E283).other W286 ne_b243_b283).other W289 ne_b243_b283)
      have f297 := (((VL270.ext E283).other W286 ne_b264_b283).other W289 ne_b264_b283)
      exact ⟨_, _, _, b223, b243, b264, b283, true, X289.more (Nat.le_of_ble_eq_true rfl) (Nat.le_of_ble_eq_true rfl), e289, N289, Z289, f291, f292, f293, f294, ⟨_, _, _, _, f295, f296, f297, VL289⟩, K290⟩
  let FY : Nat → List Slot → List Value → JFrame := fun pc r st => mkF m pc (List.toArray (.val (.int j0) :: .val (.int j1) :: .val (.int j2) :: .val (.int cf) :: .val (.int sh) :: .val (.int ex) :: .val (.ref b2) :: .val (.ref epA) :: .val (.ref upA) :: .val (.int rdf) :: .val (.int wdf) :: .val (.int di) :: .val (.int ai) :: .val (.int ci) :: .val (.int bi) :: .val (.int mi) :: .val (.int m2i) :: .val (.int m3i) :: .val (.int ea) :: .val (.int eb) :: .val (.int ec) :: .val (.int g0) :: .val (.int g1) :: .val (.int gf) :: .val (.double (FP.i2d ai)) :: .second :: .val (.double (FP.i2d bi)) :: .second :: .val (.double (FP.i2d ci)) :: .second :: .val (.double (FP.i2d di)) :: .second :: .val (.double (FP.i2d mi)) :: .second :: .val (.ref ra) :: .val (.ref ca) :: .val (.ref rc) :: .val (.ref cc) :: r)) st
  have K298 : own_K p e below G0 TJ (FY 468 [.unset, .unset, .unset, .unset, .unset, .unset, .unset, .unset, .unset, .unset, .unset, .unset, .unset, .unset, .unset, .unset, .unset, .unset, .unset] [(.int (3 : Int32))]) := by
    intro t kt
    refine KJ t ?_
    refine XS.iconst XJ.here hx rfl (hb hby at_467) ?_
    show own_S p e below TJ (mkF m 468 _ [(.int (3 : Int32))]) _
    exact kt
  obtain ⟨T299, h299, k299, X299, e299, E299, A299, st299⟩ := newP XJ hx hZ (hw _ (List.mem_of_getElem? (i := 4) rfl)) eJ (g := (FY 468 [.unset, .unset, .unset, .unset, .unset, .unset, .unset, .unset, .unset, .unset, .unset, .unset, .unset, .unset, .unset, .unset, .unset, .unset, .unset] [(.int (3 : Int32))])) rfl (hb hby at_468) rfl (by decide) (cap := 3) (by decide) (by decide) (by decide) (by decide)
  obtain ⟨b299, g299⟩ : ∃ z, z = hJ.size := ⟨_, rfl⟩
  rw [← g299] at A299 st299
  have V299 := Arv.new A299 (by decide)
  have gn299 : n0 ≤ b299 := Nat.le_trans ZJ (Nat.le_of_eq g299.symm)
  have Z299 : n0 ≤ h299.size := Nat.le_trans ZJ E299.1
  have K299 : own_K p e below G0 T299 (FY 470 [.unset, .unset, .unset, .unset, .unset, .unset, .unset, .unset, .unset, .unset, .unset, .unset, .unset, .unset, .unset, .unset, .unset, .unset, .unset] [(.ref b299)]) := fun t kt => K298 t (st299 _ kt)
  have ne_ra_b299 : ra ≠ b299 := Nat.ne_of_lt (Nat.lt_of_lt_of_le (E_ra).lt (Nat.le_of_eq g299.symm))
  have ne_ca_b299 : ca ≠ b299 := Nat.ne_of_lt (Nat.lt_of_lt_of_le (E_ca).lt (Nat.le_of_eq g299.symm))
  have ne_rc_b299 : rc ≠ b299 := Nat.ne_of_lt (Nat.lt_of_lt_of_le (E_rc).lt (Nat.le_of_eq g299.symm))
  have ne_cc_b299 : cc ≠ b299 := Nat.ne_of_lt (Nat.lt_of_lt_of_le (E_cc).lt (Nat.le_of_eq g299.symm))
  have VL299 : Arv Z h299 b299 k299 .double (3 : Int32) [(.double 0), (.double 0), (.double 0)] (.double 0) := V299.pad (pad_rep [] (.double 0) 3)
  have VSb299 : Arv Z h299 b299 k299 .double (3 : Int32) (own_l3 (fun _ => (.double 0))) (.double 0) := VL299
  have K300 : own_K p e below G0 T299 (FY 478 [.val (.ref b299), .unset, .unset, .unset, .unset, .unset, .unset, .unset, .unset, .unset, .unset, .unset, .unset, .unset, .unset, .unset, .unset, .unset, .unset] [(.double (FP.i2d j0)), (.int ea), (.ref b299)]) := by
    intro t kt
    refine K299 t ?_
    refine XS.astore X299.here hx rfl (hb hby at_470) rfl rfl (l' := (FY 0 [.val (.ref b299), .unset, .unset, .unset, .unset, .unset, .unset, .unset, .unset, .unset, .unset, .unset, .unset, .unset, .unset, .unset, .unset, .unset, .unset] []).locals) rfl ?_
    show own_S p e below T299 (mkF m 472 _ []) _
    refine XS.aload X299.here hx rfl (hb hby at_472) rfl rfl ?_
    show own_S p e below T299 (mkF m 474 _ [(.ref b299)]) _
    refine XS.iload X299.here hx rfl (hb hby at_474) rfl ?_
    show own_S p e below T299 (mkF m 476 _ [(.int ea), (.ref b299)]) _
    refine XS.iloadN X299.here hx rfl (hb hby at_476) rfl ?_
    show own_S p e below T299 (mkF m 477 _ [(.int j0), (.int ea), (.ref b299)]) _
    refine XS.i2dS X299.here hx rfl (hb hby at_477) rfl rfl ?_
    show own_S p e below T299 (mkF m 478 _ [(.double (FP.i2d j0)), (.int ea), (.ref b299)]) _
    exact kt
  obtain ⟨cl301, Ar301, qq301, S301, M301, H301, GG301⟩ := id VSb299
  have hin301 := inb_of S301 (own_in3 hRea)
  obtain ⟨T302, h302, X302, e302, W302, st302⟩ := stD X299 hx hZ e299 Ar301 (j := ea) hin301 (g := (FY 478 [.val (.ref b299), .unset, .unset, .unset, .unset, .unset, .unset, .unset, .unset, .unset, .unset, .unset, .unset, .unset, .unset, .unset, .unset, .unset, .unset] [(.double (FP.i2d j0)), (.int ea), (.ref b299)])) rfl rfl (hb hby at_478)
  have K302 : own_K p e below G0 T302 (FY 479 [.val (.ref b299), .unset, .unset, .unset, .unset, .unset, .unset, .unset, .unset, .unset, .unset, .unset, .unset, .unset, .unset, .unset, .unset, .unset, .unset] []) := fun t kt => K300 t (st302 _ kt)
  have Z302 : n0 ≤ h302.size := Nat.le_trans Z299 (Keep.of_wr W302).1
  have VL302 : Arv Z h302 b299 k299 .double (3 : Int32) (own_l3 (own_u ea (.double (FP.i2d j0)) (fun _ => (.double 0)))) (.double 0) := by
    rw [← own_s3 hRea]
    exact Arv.set Ar301 qq301 S301 M301 H301 GG301 rfl W302 (ea).toNatClampNeg rfl (own_n3 hRea)
  have N302 := Fr.snoc X302 NJ gn299
  have K303 : own_K p e below G0 T302 (FY 485 [.val (.ref b299), .unset, .unset, .unset, .unset, .unset, .unset, .unset, .unset, .unset, .unset, .unset, .unset, .unset, .unset, .unset, .unset, .unset, .unset] [(.double (FP.i2d j1)), (.int eb), (.ref b299)]) := by
    intro t kt
    refine K302 t ?_
    refine XS.aload X302.here hx rfl (hb hby at_479) rfl rfl ?_
    show own_S p e below T302 (mkF m 481 _ [(.ref b299)]) _
    refine XS.iload X302.here hx rfl (hb hby at_481) rfl ?_
    show own_S p e below T302 (mkF m 483 _ [(.int eb), (.ref b299)]) _
    refine XS.iloadN X302.here hx rfl (hb hby at_483) rfl ?_
    show own_S p e below T302 (mkF m 484 _ [(.int j1), (.int eb), (.ref b299)]) _
    refine XS.i2dS X302.here hx rfl (hb hby at_484) rfl rfl ?_
    show own_S p e below T302 (mkF m 485 _ [(.double (FP.i2d j1)), (.int eb), (.ref b299)]) _
    exact kt
  obtain ⟨cl304, Ar304, qq304, S304, M304, H304, GG304⟩ := id VL302
  have hin304 := inb_of S304 (own_in3 hReb)
  obtain ⟨T305, h305, X305, e305, W305, st305⟩ := stD X302 hx hZ e302 Ar304 (j := eb) hin304 (g := (FY 485 [.val (.ref b299), .unset, .unset, .unset, .unset, .unset, .unset, .unset, .unset, .unset, .unset, .unset, .unset, .unset, .unset, .unset, .unset, .unset, .unset] [(.double (FP.i2d j1)), (.int eb), (.ref b299)])) rfl rfl (hb hby at_485)
  have K305 : own_K p e below G0 T305 (FY 486 [.val (.ref b299), .unset, .unset, .unset, .unset, .unset, .unset, .unset, .unset, .unset, .unset, .unset, .unset, .unset, .unset, .unset, .unset, .unset, .unset] []) := fun t kt => K303 t (st305 _ kt)
  have Z305 : n0 ≤ h305.size := Nat.le_trans Z302 (Keep.of_wr W305).1
  have VL305 : Arv Z h305 b299 k299 .double (3 : Int32) (own_l3 (own_u eb (.double (FP.i2d j1)) (own_u ea (.double (FP.i2d j0)) (fun _ => (.double 0))))) (.double 0) := by
    rw [← own_s3 hReb]
    exact Arv.set Ar304 qq304 S304 M304 H304 GG304 rfl W305 (eb).toNatClampNeg rfl (own_n3 hReb)
  have N305 := Fr.snoc X305 N302 gn299
  have K306 : own_K p e below G0 T305 (FY 492 [.val (.ref b299), .unset, .unset, .unset, .unset, .unset, .unset, .unset, .unset, .unset, .unset, .unset, .unset, .unset, .unset, .unset, .unset, .unset, .unset] [(.double (FP.i2d j2)), (.int ec), (.ref b299)]) := by
    intro t kt
    refine K305 t ?_
    refine XS.aload X305.here hx rfl (hb hby at_486) rfl rfl ?_
    show own_S p e below T305 (mkF m 488 _ [(.ref b299)]) _
    refine XS.iload X305.here hx rfl (hb hby at_488) rfl ?_
    show own_S p e below T305 (mkF m 490 _ [(.int ec), (.ref b299)]) _
    refine XS.iloadN X305.here hx rfl (hb hby at_490) rfl ?_
    show own_S p e below T305 (mkF m 491 _ [(.int j2), (.int ec), (.ref b299)]) _
    refine XS.i2dS X305.here hx rfl (hb hby at_491) rfl rfl ?_
    show own_S p e below T305 (mkF m 492 _ [(.double (FP.i2d j2)), (.int ec), (.ref b299)]) _
    exact kt
  obtain ⟨cl307, Ar307, qq307, S307, M307, H307, GG307⟩ := id VL305
  have hin307 := inb_of S307 (own_in3 hRec)
  obtain ⟨T308, h308, X308, e308, W308, st308⟩ := stD X305 hx hZ e305 Ar307 (j := ec) hin307 (g := (FY 492 [.val (.ref b299), .unset, .unset, .unset, .unset, .unset, .unset, .unset, .unset, .unset, .unset, .unset, .unset, .unset, .unset, .unset, .unset, .unset, .unset] [(.double (FP.i2d j2)), (.int ec), (.ref b299)])) rfl rfl (hb hby at_492)
  have K308 : own_K p e below G0 T308 (FY 493 [.val (.ref b299), .unset, .unset, .unset, .unset, .unset, .unset, .unset, .unset, .unset, .unset, .unset, .unset, .unset, .unset, .unset, .unset, .unset, .unset] []) := fun t kt => K306 t (st308 _ kt)
  have Z308 : n0 ≤ h308.size := Nat.le_trans Z305 (Keep.of_wr W308).1
  have VL308 : Arv Z h308 b299 k299 .double (3 : Int32) (own_l3 (own_u ec (.double (FP.i2d j2)) (own_u eb (.double (FP.i2d j1)) (own_u ea (.double (FP.i2d j0)) (fun _ => (.double 0)))))) (.double 0) := by
    rw [← own_s3 hRec]
    exact Arv.set Ar307 qq307 S307 M307 H307 GG307 rfl W308 (ec).toNatClampNeg rfl (own_n3 hRec)
  have N308 := Fr.snoc X308 N305 gn299
  have f309 := ((((E_ra.ext E299).wr W302).wr W305).wr W308)
  have f310 := ((((E_ca.ext E299).wr W302).wr W305).wr W308)
  have f311 := ((((E_rc.ext E299).wr W302).wr W305).wr W308)
  have f312 := ((((E_cc.ext E299).wr W302).wr W305).wr W308)
  obtain ⟨T313, h313, X313, e313, E313, A313, D313, -, st313⟩ := newO X308 hx hZ hown (hw _ (List.mem_of_getElem? (i := 5) rfl)) (hw _ (List.mem_of_getElem? (i := 6) rfl)) (hw _ (List.mem_of_getElem? (i := 7) rfl)) e308 (g := (FY 493 [.val (.ref b299), .unset, .unset, .unset, .unset, .unset, .unset, .unset, .unset, .unset, .unset, .unset, .unset, .unset, .unset, .unset, .unset, .unset, .unset] [])) rfl (hb hby at_493) (by decide) (by decide)
  obtain ⟨b313, g313⟩ : ∃ z, z = h308.size := ⟨_, rfl⟩
  rw [← g313] at A313 D313 st313
  have gn313 : n0 ≤ b313 := Nat.le_trans Z308 (Nat.le_of_eq g313.symm)
  have Z313 : n0 ≤ h313.size := Nat.le_trans Z308 E313.1
  have K313 : own_K p e below G0 T313 (FY 496 [.val (.ref b299), .unset, .unset, .unset, .unset, .unset, .unset, .unset, .unset, .unset, .unset, .unset, .unset, .unset, .unset, .unset, .unset, .unset, .unset] [(.ref b313)]) := fun t kt => K308 t (st313 _ kt)
  have ne_ra_b313 : ra ≠ b313 := Nat.ne_of_lt (Nat.lt_of_lt_of_le (f309).lt (Nat.le_of_eq g313.symm))
  have ne_ca_b313 : ca ≠ b313 := Nat.ne_of_lt (Nat.lt_of_lt_of_le (f310).lt (Nat.le_of_eq g313.symm))
  have ne_rc_b313 : rc ≠ b313 := Nat.ne_of_lt (Nat.lt_of_lt_of_le (f311).lt (Nat.le_of_eq g313.symm))
  have ne_cc_b313 : cc ≠ b313 := Nat.ne_of_lt (Nat.lt_of_lt_of_le (f312).lt (Nat.le_of_eq g313.symm))
  have ne_b299_b313 : b299 ≠ b313 := Nat.ne_of_lt (Nat.lt_of_lt_of_le (VL308).lt (Nat.le_of_eq g313.symm))
  have F_unknownCount_b313 := (D313 (Or.inr (hw _ (List.mem_of_getElem? (i := 15) rfl))) (ty := .int) (by decide) : Fld Z h313 b313 "com/example/sondage/sondage/inference/Factorization" "unknownCount" "I" (.int (0 : Int32)))
  have F_determined_b313 := (D313 (Or.inr (hw _ (List.mem_of_getElem? (i := 18) rfl))) (ty := (.array .boolean)) (by decide) : Fld Z h313 b313 "com/example/sondage/sondage/inference/Factorization" "determined" "[Z" .null)
  have F_reducedBy_b313 := (D313 (Or.inr (hw _ (List.mem_of_getElem? (i := 21) rfl))) (ty := (.array (.array .int))) (by decide) : Fld Z h313 b313 "com/example/sondage/sondage/inference/Factorization" "reducedBy" "[[I" .null)
  have F_multipliers_b313 := (D313 (Or.inr (hw _ (List.mem_of_getElem? (i := 25) rfl))) (ty := (.array (.array .double))) (by decide) : Fld Z h313 b313 "com/example/sondage/sondage/inference/Factorization" "multipliers" "[[D" .null)
  have F_lengths_b313 := (D313 (Or.inr (hw _ (List.mem_of_getElem? (i := 27) rfl))) (ty := (.array .int)) (by decide) : Fld Z h313 b313 "com/example/sondage/sondage/inference/Factorization" "lengths" "[I" .null)
  have F_pivotEquation_b313 := (D313 (Or.inr (hw _ (List.mem_of_getElem? (i := 33) rfl))) (ty := (.array .int)) (by decide) : Fld Z h313 b313 "com/example/sondage/sondage/inference/Factorization" "pivotEquation" "[I" .null)
  have F_pivotUnknowns_b313 := (D313 (Or.inr (hw _ (List.mem_of_getElem? (i := 35) rfl))) (ty := (.array (.array .int))) (by decide) : Fld Z h313 b313 "com/example/sondage/sondage/inference/Factorization" "pivotUnknowns" "[[I" .null)
  have F_pivotCoefficients_b313 := (D313 (Or.inr (hw _ (List.mem_of_getElem? (i := 37) rfl))) (ty := (.array (.array .double))) (by decide) : Fld Z h313 b313 "com/example/sondage/sondage/inference/Factorization" "pivotCoefficients" "[[D" .null)
  have F_pivotCount_b313 := (D313 (Or.inl (hw _ (List.mem_of_getElem? (i := 44) rfl))) (ty := .int) (by decide) : Fld Z h313 b313 "com/example/sondage/sondage/inference/Factorization" "pivotCount" "I" (.int (0 : Int32)))
  have F_reductions_b313 := (D313 (Or.inl (hw _ (List.mem_of_getElem? (i := 52) rfl))) (ty := .long) (by decide) : Fld Z h313 b313 "com/example/sondage/sondage/inference/Factorization" "reductions" "J" (.long (0 : Int64)))
  have K314 : own_K p e below G0 T313 (FY 499 [.val (.ref b299), .unset, .unset, .unset, .unset, .unset, .unset, .unset, .unset, .unset, .unset, .unset, .unset, .unset, .unset, .unset, .unset, .unset, .unset] [(.int (3 : Int32)), (.int (3 : Int32)), (.ref b313), (.ref b313)]) := by
    intro t kt
    refine K313 t ?_
    refine XS.dup X313.here hx rfl (hb hby at_496) rfl rfl ?_
    show own_S p e below T313 (mkF m 497 _ [(.ref b313), (.ref b313)]) _
    refine XS.iconst X313.here hx rfl (hb hby at_497) ?_
    show own_S p e below T313 (mkF m 498 _ [(.int (3 : Int32)), (.ref b313), (.ref b313)]) _
    refine XS.iconst X313.here hx rfl (hb hby at_498) ?_
    show own_S p e below T313 (mkF m 499 _ [(.int (3 : Int32)), (.int (3 : Int32)), (.ref b313), (.ref b313)]) _
    exact kt
  obtain ⟨v315, _, ⟨T315, L315, k315, n315⟩, -, X315, ⟨Lc315, hQ315, l315, y315, z315⟩, st315⟩ := X313.specialBack hx (y := (⟨"com/example/sondage/sondage/inference/Factorization", "<init>", "(II)V"⟩ : MethodName)) rfl hown (mvT hZ (hw _ (List.mem_of_getElem? (i := 8) rfl))) (mvT hZ (hw _ (List.mem_of_getElem? (i := 9) rfl))) (mvT hZ (hw _ (List.mem_of_getElem? (i := 10) rfl))) (by decide) (backOf (W := 1) (rm1 l Z aa hw [] b313 _ _ _ _ _ _ _ _ h313 h308.size E313.1 (Nat.le_of_eq g313.symm) A313 F_unknownCount_b313 F_determined_b313 F_reducedBy_b313 F_multipliers_b313 F_lengths_b313 F_pivotEquation_b313 F_pivotUnknowns_b313 F_pivotCoefficients_b313 F_pivotCount_b313 F_reductions_b313) hZ (hw _ (List.mem_of_getElem? (i := 10) rfl)) (hw _ (List.mem_of_getElem? (i := 7) rfl)) (by decide) (by decide)) (g := (FY 499 [.val (.ref b299), .unset, .unset, .unset, .unset, .unset, .unset, .unset, .unset, .unset, .unset, .unset, .unset, .unset, .unset, .unset, .unset, .unset, .unset] [(.int (3 : Int32)), (.int (3 : Int32)), (.ref b313), (.ref b313)])) rfl (by rw [hml]; rfl) (Steps.refl _) (a := b313) (argsL := [(.int (3 : Int32)), (.int (3 : Int32))]) (rest := [(.ref b313)]) (lenOf pd_PIIQV rfl) rfl (by show 2 * 0 + _ ≤ _; exact Nat.le_of_eq rfl) (hb hby at_499) (fun _ _ => ⟨rfl, e313, (by decide : 13 + 7 ≤ _), (by decide : 47 + 21 ≤ _)⟩)
  dsimp only [Pt.U, Pt.locs, Pt.cells, Pt.slots] at X315 l315 y315 z315 st315 hQ315
  subst l315 y315 z315
  obtain ⟨rfl, N315q, KV315, rb315, ml315, ln315, pe315, pu315, pc315, kr315, km315, kl315, ke315, ku315, kc315, SQ315, FA315⟩ := hQ315
  have N315 := Fr.app N308 (fun y hy => Nat.le_trans Z308 (N315q y hy))
  have K315 : own_K p e below G0 T315 (FY 502 [.val (.ref b299), .unset, .unset, .unset, .unset, .unset, .unset, .unset, .unset, .unset, .unset, .unset, .unset, .unset, .unset, .unset, .unset, .unset, .unset] [(.ref b313)]) := fun t kt => K314 t (st315.trans kt)
  have Z315 : n0 ≤ T315.heap.size := Nat.le_trans Z313 KV315.1
  have SP315 := own_Sep.mono Z308 SQ315
  obtain ⟨sg0, sg1, sg2, sg3, sg4, sg5, sg6, -⟩ := id SQ315
  have ne_ra_rb315 : ra ≠ rb315 := Nat.ne_of_lt (Nat.lt_of_lt_of_le (f309).lt sg1)
  have ne_ca_rb315 : ca ≠ rb315 := Nat.ne_of_lt (Nat.lt_of_lt_of_le (f310).lt sg1)
  have ne_rc_rb315 : rc ≠ rb315 := Nat.ne_of_lt (Nat.lt_of_lt_of_le (f311).lt sg1)
  have ne_cc_rb315 : cc ≠ rb315 := Nat.ne_of_lt (Nat.lt_of_lt_of_le (f312).lt sg1)
  have ne_b299_rb315 : b299 ≠ rb315 := Nat.ne_of_lt (Nat.lt_of_lt_of_le (VL308).lt sg1)
  have ne_ra_ml315 : ra ≠ ml315 := Nat.ne_of_lt (Nat.lt_of_lt_of_le (f309).lt sg2)
  have ne_ca_ml315 : ca ≠ ml315 := Nat.ne_of_lt (Nat.lt_of_lt_of_le (f310).lt sg2)
  have ne_rc_ml315 : rc ≠ ml315 := Nat.ne_of_lt (Nat.lt_of_lt_of_le (f311).lt sg2)
  have ne_cc_ml315 : cc ≠ ml315 := Nat.ne_of_lt (Nat.lt_of_lt_of_le (f312).lt sg2)
  have ne_b299_ml315 : b299 ≠ ml315 := Nat.ne_of_lt (Nat.lt_of_lt_of_le (VL308).lt sg2)
  have ne_ra_ln315 : ra ≠ ln315 := Nat.ne_of_lt (Nat.lt_of_lt_of_le (f309).lt sg3)
  have ne_ca_ln315 : ca ≠ ln315 := Nat.ne_of_lt (Nat.lt_of_lt_of_le (f310).lt sg3)
  have ne_rc_ln315 : rc ≠ ln315 := Nat.ne_of_lt (Nat.lt_of_lt_of_le (f311).lt sg3)
  have ne_cc_ln315 : cc ≠ ln315 := Nat.ne_of_lt (Nat.lt_of_lt_of_le (f312).lt sg3)
  have ne_b299_ln315 : b299 ≠ ln315 := Nat.ne_of_lt (Nat.lt_of_lt_of_le (VL308).lt sg3)
  have ne_ra_pe315 : ra ≠ pe315 := Nat.ne_of_lt (Nat.lt_of_lt_of_le (f309).lt sg4)
  have ne_ca_pe315 : ca ≠ pe315 := Nat.ne_of_lt (Nat.lt_of_lt_of_le (f310).lt sg4)
  have ne_rc_pe315 : rc ≠ pe315 := Nat.ne_of_lt (Nat.lt_of_lt_of_le (f311).lt sg4)
  have ne_cc_pe315 : cc ≠ pe315 := Nat.ne_of_lt (Nat.lt_of_lt_of_le (f312).lt sg4)
  have ne_b299_pe315 : b299 ≠ pe315 := Nat.ne_of_lt (Nat.lt_of_lt_of_le (VL308).lt sg4)
  have ne_ra_pu315 : ra ≠ pu315 := Nat.ne_of_lt (Nat.lt_of_lt_of_le (f309).lt sg5)
  have ne_ca_pu315 : ca ≠ pu315 := Nat.ne_of_lt (Nat.lt_of_lt_of_le (f310).lt sg5)
  have ne_rc_pu315 : rc ≠ pu315 := Nat.ne_of_lt (Nat.lt_of_lt_of_le (f311).lt sg5)
  have ne_cc_pu315 : cc ≠ pu315 := Nat.ne_of_lt (Nat.lt_of_lt_of_le (f312).lt sg5)
  have ne_b299_pu315 : b299 ≠ pu315 := Nat.ne_of_lt (Nat.lt_of_lt_of_le (VL308).lt sg5)
  have ne_ra_pc315 : ra ≠ pc315 := Nat.ne_of_lt (Nat.lt_of_lt_of_le (f309).lt sg6)
  have ne_ca_pc315 : ca ≠ pc315 := Nat.ne_of_lt (Nat.lt_of_lt_of_le (f310).lt sg6)
  have ne_rc_pc315 : rc ≠ pc315 := Nat.ne_of_lt (Nat.lt_of_lt_of_le (f311).lt sg6)
  have ne_cc_pc315 : cc ≠ pc315 := Nat.ne_of_lt (Nat.lt_of_lt_of_le (f312).lt sg6)
  have ne_b299_pc315 : b299 ≠ pc315 := Nat.ne_of_lt (Nat.lt_of_lt_of_le (VL308).lt sg6)
  obtain ⟨fc315_0, fc315_1, fc315_2, fc315_3, fc315_4, fc315_5, fc315_6, fc315_7, fc315_8, fc315_9, fc315_10, fc315_11, fc315_12, fc315_13, fc315_14, fc315_15⟩ := id FA315
  obtain ⟨fg315_0, fg315_1, fg315_2, fg315_3, fg315_4, fg315_5, fg315_6, ne_b313_rb315, ne_b313_ml315, ne_b313_ln315, ne_b313_pe315, ne_b313_pu315, ne_b313_pc315, ne_rb315_ml315, ne_rb315_ln315, ne_rb315_pe315, ne_rb315_pu315, ne_rb315_pc315, ne_ml315_ln315, ne_ml315_pe315, ne_ml315_pu315, ne_ml315_pc315, ne_ln315_pe315, ne_ln315_pu315, ne_ln315_pc315, ne_pe315_pu315, ne_pe315_pc315, ne_pu315_pc315, ov315_0, ov315_1, ov315_2, ov315_3⟩ := id SP315
  have VSrb315 : Arv Z T315.heap rb315 kr315 (.array .int) (3 : Int32) (own_l3 (fun _ => .null)) .null := fc315_10
  have VSml315 : Arv Z T315.heap ml315 km315 (.array .double) (3 : Int32) (own_l3 (fun _ => .null)) .null := fc315_11
  have VSln315 : Arv Z T315.heap ln315 kl315 .int (3 : Int32) (own_l3 (fun _ => (.int (0 : Int32)))) (.int (0 : Int32)) := fc315_12
  have K316 : own_K p e below G0 T315 (FY 512 [.val (.ref b299), .val (.ref b313), .unset, .unset, .unset, .unset, .unset, .unset, .unset, .unset, .unset, .unset, .unset, .unset, .unset, .unset, .unset, .unset, .unset] [(.ref ca), (.ref ra), (.int ea), (.ref b313)]) := by
    intro t kt
    refine K315 t ?_
    refine XS.astore X315.here hx rfl (hb hby at_502) rfl rfl (l' := (FY 0 [.val (.ref b299), .val (.ref b313), .unset, .unset, .unset, .unset, .unset, .unset, .unset, .unset, .unset, .unset, .unset, .unset, .unset, .unset, .unset, .unset, .unset] []).locals) rfl ?_
    show own_S p e below T315 (mkF m 504 _ []) _
    refine XS.aload X315.here hx rfl (hb hby at_504) rfl rfl ?_
    show own_S p e below T315 (mkF m 506 _ [(.ref b313)]) _
    refine XS.iload X315.here hx rfl (hb hby at_506) rfl ?_
    show own_S p e below T315 (mkF m 508 _ [(.int ea), (.ref b313)]) _
    refine XS.aload X315.here hx rfl (hb hby at_508) rfl rfl ?_
    show own_S p e below T315 (mkF m 510 _ [(.ref ra), (.int ea), (.ref b313)]) _
    refine XS.aload X315.here hx rfl (hb hby at_510) rfl rfl ?_
    show own_S p e below T315 (mkF m 512 _ [(.ref ca), (.ref ra), (.int ea), (.ref b313)]) _
    exact kt
  have FAx317 : own_Fac Z T315.heap b313 rb315 ml315 ln315 pe315 pu315 pc315 kr315 km315 kl315 ke315 ku315 kc315 (3 : Int32) (0 : Int32) (0 : Int64) (own_l3 (fun _ => .null)) (own_l3 (fun _ => .null)) (own_l3 (fun _ => (.int (0 : Int32)))) [(.int (0 : Int32)), (.int (0 : Int32)), (.int (0 : Int32))] [.null, .null, .null] [.null, .null, .null] := ⟨fc315_0, fc315_1, fc315_2, fc315_3, fc315_4, fc315_5, fc315_6, fc315_7, fc315_8, fc315_9, VSrb315, VSml315, VSln315, fc315_13, fc315_14, fc315_15⟩
  have f318 := ((f309.ext E313).keep KV315)
  have f319 := ((f310.ext E313).keep KV315)
  obtain ⟨cq320, kq320, q320a, q320b, q320c⟩ := isOf hZ (rfl : T315.heap = _) fc315_0
  obtain ⟨v321, _, ⟨T321, L321, k321, n321⟩, -, X321, ⟨Lc321, hQ321, l321, y321, z321⟩, st321⟩ := X315.virtualBack hx (y := (⟨"com/example/sondage/sondage/inference/Factorization", "pivot", "(I[I[D)I"⟩ : MethodName)) (z := (⟨"com/example/sondage/sondage/inference/Factorization", "pivot", "(I[I[D)I"⟩ : MethodName)) hown (mvT hZ (hw _ (List.mem_of_getElem? (i := 38) rfl))) (mvT hZ (hw _ (List.mem_of_getElem? (i := 39) rfl))) (notFace_of_selects (args := #[]) (mvT hZ (hw _ (List.mem_of_getElem? (i := 41) rfl)))) (mvT hZ (hw _ (List.mem_of_getElem? (i := 41) rfl))) (mvT hZ (hw _ (List.mem_of_getElem? (i := 40) rfl))) (by decide) (backOf (W := 0) (rm4_0 l Z aa hw [] (b313) (ea) (ra) (ca) rb315 ml315 ln315 pe315 pu315 pc315 kr315 km315 kl315 ke315 ku315 kc315 (0 : Int64) (own_l3 (fun _ => .null)) (own_l3 (fun _ => .null)) (own_l3 (fun _ => (.int (0 : Int32)))) (.int (0 : Int32)) (.int (0 : Int32)) (.int (0 : Int32)) .null .null .null .null .null .null T315.heap n0 Z315 SP315 FAx317 f318 f319) hZ (hw _ (List.mem_of_getElem? (i := 42) rfl)) (hw _ (List.mem_of_getElem? (i := 7) rfl)) (by decide) (by decide)) q320a q320c (g := (FY 512 [.val (.ref b299), .val (.ref b313), .unset, .unset, .unset, .unset, .unset, .unset, .unset, .unset, .unset, .unset, .unset, .unset, .unset, .unset, .unset, .unset, .unset] [(.ref ca), (.ref ra), (.int ea), (.ref b313)])) rfl (by rw [hml]; rfl) (Steps.refl _) (argsL := [(.int ea), (.ref ra), (.ref ca)]) (rest := []) (lenOf pd_PI_I_DQI rfl) rfl (by show 2 * 0 + _ ≤ _; exact Nat.le_of_eq rfl) (hb hby at_512) (fun _ _ => ⟨rfl, (rfl : T315.heap = _), (by decide : 20 + 0 ≤ _), (by decide : 68 + 0 ≤ _)⟩)
  dsimp only [Pt.U, Pt.locs, Pt.cells, Pt.slots] at X321 l321 y321 z321 st321 hQ321
  subst l321 y321 z321
  obtain ⟨rfl, N321q, KV321, FA321⟩ := hQ321
  have N321 := Fr.app N315 N321q
  have K321 : own_K p e below G0 T321 (FY 515 [.val (.ref b299), .val (.ref b313), .unset, .unset, .unset, .unset, .unset, .unset, .unset, .unset, .unset, .unset, .unset, .unset, .unset, .unset, .unset, .unset, .unset] [(.int (0 : Int32))]) := fun t kt => K316 t (st321.trans kt)
  have Z321 : n0 ≤ T321.heap.size := Nat.le_trans Z315 KV321.1
  obtain ⟨fc321_0, fc321_1, fc321_2, fc321_3, fc321_4, fc321_5, fc321_6, fc321_7, fc321_8, fc321_9, fc321_10, fc321_11, fc321_12, fc321_13, fc321_14, fc321_15⟩ := id FA321
  have K322 : own_K p e below G0 T321 (FY 518 [.val (.ref b299), .val (.ref b313), .unset, .unset, .unset, .unset, .unset, .unset, .unset, .unset, .unset, .unset, .unset, .unset, .unset, .unset, .unset, .unset, .unset] [(.int rdf)]) := by
    intro t kt
    refine K321 t ?_
    refine XS.pop X321.here hx rfl (hb hby at_515) rfl rfl ?_
    show own_S p e below T321 (mkF m 516 _ []) _
    refine XS.iload X321.here hx rfl (hb hby at_516) rfl ?_
    show own_S p e below T321 (mkF m 518 _ [(.int rdf)]) _
    exact kt
  let FZ : Nat → List Slot → List Value → JFrame := fun pc r st => mkF m pc (List.toArray (.val (.int j0) :: .val (.int j1) :: .val (.int j2) :: .val (.int cf) :: .val (.int sh) :: .val (.int ex) :: .val (.ref b2) :: .val (.ref epA) :: .val (.ref upA) :: .val (.int rdf) :: .val (.int wdf) :: .val (.int di) :: .val (.int ai) :: .val (.int ci) :: .val (.int bi) :: .val (.int mi) :: .val (.int m2i) :: .val (.int m3i) :: .val (.int ea) :: .val (.int eb) :: .val (.int ec) :: .val (.int g0) :: .val (.int g1) :: .val (.int gf) :: .val (.double (FP.i2d ai)) :: .second :: .val (.double (FP.i2d bi)) :: .second :: .val (.double (FP.i2d ci)) :: .second :: .val (.double (FP.i2d di)) :: .second :: .val (.double (FP.i2d mi)) :: .second :: .val (.ref ra) :: .val (.ref ca) :: .val (.ref rc) :: .val (.ref cc) :: .val (.ref b299) :: .val (.ref b313) :: r)) st
  by_cases hc323 : rdf = (0 : Int32)
  ·
    have K324 : own_K p e below G0 T321 (FZ 539 [.unset, .unset, .unset, .unset, .unset, .unset, .unset, .unset, .unset, .unset, .unset, .unset, .unset, .unset, .unset, .unset, .unset] [(.ref cc), (.ref rc), (.int eb), (.ref b313)]) := by
      intro t kt
      refine K322 t ?_
      refine XS.ifYes X321.here hx rfl (pc0 := 518) (pc' := 531) rfl (hb hby at_518) rfl ((if0 _ _).trans (teq hc323).1) (by decide) (by decide) ?_
      show own_S p e below T321 (mkF m 531 _ []) _
      refine XS.aload X321.here hx rfl (hb hby at_531) rfl rfl ?_
      show own_S p e below T321 (mkF m 533 _ [(.ref b313)]) _
      refine XS.iload X321.here hx rfl (hb hby at_533) rfl ?_
      show own_S p e below T321 (mkF m 535 _ [(.int eb), (.ref b313)]) _
      refine XS.aload X321.here hx rfl (hb hby at_535) rfl rfl ?_
      show own_S p e below T321 (mkF m 537 _ [(.ref rc), (.int eb), (.ref b313)]) _
      refine XS.aload X321.here hx rfl (hb hby at_537) rfl rfl ?_
      show own_S p e below T321 (mkF m 539 _ [(.ref cc), (.ref rc), (.int eb), (.ref b313)]) _
      exact kt
    have FAx325 : own_Fac Z T321.heap b313 rb315 ml315 ln315 pe315 pu315 pc315 kr315 km315 kl315 ke315 ku315 kc315 (3 : Int32) (1 : Int32) (0 : Int64) (own_l3 (fun _ => .null)) (own_l3 (fun _ => .null)) (own_l3 (fun _ => (.int (0 : Int32)))) [(.int ea), (.int (0 : Int32)), (.int (0 : Int32))] [(.ref ra), .null, .null] [(.ref ca), .null, .null] := ⟨fc321_0, fc321_1, fc321_2, fc321_3, fc321_4, fc321_5, fc321_6, fc321_7, fc321_8, fc321_9, fc321_10, fc321_11, fc321_12, fc321_13, fc321_14, fc321_15⟩
    have f326 := (((f311.ext E313).keep KV315).keep KV321)
    have f327 := (((f312.ext E313).keep KV315).keep KV321)
    obtain ⟨cq328, kq328, q328a, q328b, q328c⟩ := isOf hZ (rfl : T321.heap = _) fc321_0
    obtain ⟨v329, _, ⟨T329, L329, k329, n329⟩, -, X329, ⟨Lc329, hQ329, l329, y329, z329⟩, st329⟩ := X321.virtualBack hx (y := (⟨"com/example/sondage/sondage/inference/Factorization", "pivot", "(I[I[D)I"⟩ : MethodName)) (z := (⟨"com/example/sondage/sondage/inference/Factorization", "pivot", "(I[I[D)I"⟩ : MethodName)) hown (mvT hZ (hw _ (List.mem_of_getElem? (i := 38) rfl))) (mvT hZ (hw _ (List.mem_of_getElem? (i := 39) rfl))) (notFace_of_selects (args := #[]) (mvT hZ (hw _ (List.mem_of_getElem? (i := 41) rfl)))) (mvT hZ (hw _ (List.mem_of_getElem? (i := 41) rfl))) (mvT hZ (hw _ (List.mem_of_getElem? (i := 40) rfl))) (by decide) (backOf (W := 0) (rm4_1 l Z aa hw [] (b313) (eb) (rc) (cc) rb315 ml315 ln315 pe315 pu315 pc315 kr315 km315 kl315 ke315 ku315 kc315 (0 : Int64) (own_l3 (fun _ => .null)) (own_l3 (fun _ => .null)) (own_l3 (fun _ => (.int (0 : Int32)))) (.int ea) (.int (0 : Int32)) (.int (0 : Int32)) (.ref ra) .null .null (.ref ca) .null .null T321.heap n0 Z321 SP315 FAx325 f326 f327) hZ (hw _ (List.mem_of_getElem? (i := 42) rfl)) (hw _ (List.mem_of_getElem? (i := 7) rfl)) (by decide) (by decide)) q328a q328c (g := (FZ 539 [.unset, .unset, .unset, .unset, .unset, .unset, .unset, .unset, .unset, .unset, .unset, .unset, .unset, .unset, .unset, .unset, .unset] [(.ref cc), (.ref rc), (.int eb), (.ref b313)])) rfl (by rw [hml]; rfl) (Steps.refl _) (argsL := [(.int eb), (.ref rc), (.ref cc)]) (rest := []) (lenOf pd_PI_I_DQI rfl) rfl (by show 2 * 0 + _ ≤ _; exact Nat.le_of_eq rfl) (hb hby at_539) (fun _ _ => ⟨rfl, (rfl : T321.heap = _), (by decide : 20 + 0 ≤ _), (by decide : 68 + 0 ≤ _)⟩)
    dsimp only [Pt.U, Pt.locs, Pt.cells, Pt.slots] at X329 l329 y329 z329 st329 hQ329
    subst l329 y329 z329
    obtain ⟨rfl, N329q, KV329, FA329⟩ := hQ329
    have N329 := Fr.app N321 N329q
    have K329 : own_K p e below G0 T329 (FZ 542 [.unset, .unset, .unset, .unset, .unset, .unset, .unset, .unset, .unset, .unset, .unset, .unset, .unset, .unset, .unset, .unset, .unset] [(.int (1 : Int32))]) := fun t kt => K324 t (st329.trans kt)
    have Z329 : n0 ≤ T329.heap.size := Nat.le_trans Z321 KV329.1
    obtain ⟨fc329_0, fc329_1, fc329_2, fc329_3, fc329_4, fc329_5, fc329_6, fc329_7, fc329_8, fc329_9, fc329_10, fc329_11, fc329_12, fc329_13, fc329_14, fc329_15⟩ := id FA329
    have K330 : own_K p e below G0 T329 (FZ 551 [.unset, .unset, .unset, .unset, .unset, .unset, .unset, .unset, .unset, .unset, .unset, .unset, .unset, .unset, .unset, .unset, .unset] [(.double (FP.i2d m2i)), (.int (0 : Int32)), (.int ec), (.ref b313)]) := by
      intro t kt
      refine K329 t ?_
      refine XS.pop X329.here hx rfl (hb hby at_542) rfl rfl ?_
      show own_S p e below T329 (mkF m 543 _ []) _
      refine XS.aload X329.here hx rfl (hb hby at_543) rfl rfl ?_
      show own_S p e below T329 (mkF m 545 _ [(.ref b313)]) _
      refine XS.iload X329.here hx rfl (hb hby at_545) rfl ?_
      show own_S p e below T329 (mkF m 547 _ [(.int ec), (.ref b313)]) _
      refine XS.iconst X329.here hx rfl (hb hby at_547) ?_
      show own_S p e below T329 (mkF m 548 _ [(.int (0 : Int32)), (.int ec), (.ref b313)]) _
      refine XS.iload X329.here hx rfl (hb hby at_548) rfl ?_
      show own_S p e below T329 (mkF m 550 _ [(.int m2i), (.int (0 : Int32)), (.int ec), (.ref b313)]) _
      refine XS.i2dS X329.here hx rfl (hb hby at_550) rfl rfl ?_
      show own_S p e below T329 (mkF m 551 _ [(.double (FP.i2d m2i)), (.int (0 : Int32)), (.int ec), (.ref b313)]) _
      exact kt
    have FAx331 : own_Fac Z T329.heap b313 rb315 ml315 ln315 pe315 pu315 pc315 kr315 km315 kl315 ke315 ku315 kc315 (3 : Int32) (2 : Int32) (0 : Int64) (own_l3 (fun _ => .null)) (own_l3 (fun _ => .null)) (own_l3 (fun _ => (.int (0 : Int32)))) [(.int ea), (.int eb), (.int (0 : Int32))] [(.ref ra), (.ref rc), .null] [(.ref ca), (.ref cc), .null] := ⟨fc329_0, fc329_1, fc329_2, fc329_3, fc329_4, fc329_5, fc329_6, fc329_7, fc329_8, fc329_9, fc329_10, fc329_11, fc329_12, fc329_13, fc329_14, fc329_15⟩
    have f332 := ((f318.keep KV321).keep KV329)
    have f333 := ((f319.keep KV321).keep KV329)
    have f334 := (f326.keep KV329)
    have f335 := (f327.keep KV329)
    have f336 := ((((VL308.ext E313).keep KV315 (fun q => ne_b299_b313 (List.mem_singleton.mp q))).keep KV321 (by simp only [List.mem_cons, List.not_mem_nil, or_false, not_or]; exact ⟨ne_b299_b313, ne_b299_pe315, ne_b299_pu315, ne_b299_pc315⟩)).keep KV329 (by simp only [List.mem_cons, List.not_mem_nil, or_false, not_or]; exact ⟨ne_b299_b313, ne_b299_pe315, ne_b299_pu315, ne_b299_pc315⟩))
    obtain ⟨cq337, kq337, q337a, q337b, q337c⟩ := isOf hZ (rfl : T329.heap = _) fc329_0
    obtain ⟨v338, _, ⟨T338, L338, k338, n338⟩, -, X338, ⟨Lc338, hQ338, l338, y338, z338⟩, st338⟩ := X329.virtualBack hx (y := (⟨"com/example/sondage/sondage/inference/Factorization", "reduced", "(IID)V"⟩ : MethodName)) (z := (⟨"com/example/sondage/sondage/inference/Factorization", "reduced", "(IID)V"⟩ : MethodName)) hown (mvT hZ (hw _ (List.mem_of_getElem? (i := 46) rfl))) (mvT hZ (hw _ (List.mem_of_getElem? (i := 47) rfl))) (notFace_of_selects (args := #[]) (mvT hZ (hw _ (List.mem_of_getElem? (i := 49) rfl)))) (mvT hZ (hw _ (List.mem_of_getElem? (i := 49) rfl))) (mvT hZ (hw _ (List.mem_of_getElem? (i := 48) rfl))) (by decide) (backOf (W := 0) (rm5_1 l Z aa hw [] (b313) (ec) ((0 : Int32)) ((FP.i2d m2i)) rb315 ml315 ln315 pe315 pu315 pc315 kr315 km315 kl315 ke315 ku315 kc315 (0 : Int64) (2 : Int32) (fun _ => .null) (fun _ => .null) (fun _ => (.int (0 : Int32))) [(.int ea), (.int eb), (.int (0 : Int32))] [(.ref ra), (.ref rc), .null] [(.ref ca), (.ref cc), .null] T329.heap n0 Z329 SP315 FAx331 hRec rfl rfl) hZ (hw _ (List.mem_of_getElem? (i := 50) rfl)) (hw _ (List.mem_of_getElem? (i := 7) rfl)) (by decide) (by decide)) q337a q337c (g := (FZ 551 [.unset, .unset, .unset, .unset, .unset, .unset, .unset, .unset, .unset, .unset, .unset, .unset, .unset, .unset, .unset, .unset, .unset] [(.double (FP.i2d m2i)), (.int (0 : Int32)), (.int ec), (.ref b313)])) rfl (by rw [hml]; rfl) (Steps.refl _) (argsL := [(.int ec), (.int (0 : Int32)), (.double (FP.i2d m2i))]) (rest := []) (lenOf pd_PIIDQV rfl) rfl (by show 2 * 0 + _ ≤ _; exact Nat.le_of_eq rfl) (hb hby at_551) (fun _ _ => ⟨rfl, (rfl : T329.heap = _), (by decide : 20 + 2 ≤ _), (by decide : 68 + 8 ≤ _)⟩)
    dsimp only [Pt.U, Pt.locs, Pt.cells, Pt.slots] at X338 l338 y338 z338 st338 hQ338
    subst l338 y338 z338
    obtain ⟨rfl, N338q, KV338, qa338, qb338, ka338, kb338, FA338, W1338, W2338, S1338, S2338, G1338, G2338, ne_qa338_qb338⟩ := hQ338
    have N338 := Fr.app N329 N338q
    have K338 : own_K p e below G0 T338 (FZ 554 [.unset, .unset, .unset, .unset, .unset, .unset, .unset, .unset, .unset, .unset, .unset, .unset, .unset, .unset, .unset, .unset, .unset] []) := fun t kt => K330 t (st338.trans kt)
    have Z338 : n0 ≤ T338.heap.size := Nat.le_trans Z329 KV338.1
    have ne_ra_qa338 : ra ≠ qa338 := Nat.ne_of_lt (Nat.lt_of_lt_of_le (f332).lt S1338)
    have ne_ca_qa338 : ca ≠ qa338 := Nat.ne_of_lt (Nat.lt_of_lt_of_le (f333).lt S1338)
    have ne_rc_qa338 : rc ≠ qa338 := Nat.ne_of_lt (Nat.lt_of_lt_of_le (f334).lt S1338)
    have ne_cc_qa338 : cc ≠ qa338 := Nat.ne_of_lt (Nat.lt_of_lt_of_le (f335).lt S1338)
    have ne_b299_qa338 : b299 ≠ qa338 := Nat.ne_of_lt (Nat.lt_of_lt_of_le (f336).lt S1338)
    have ne_b313_qa338 : b313 ≠ qa338 := Nat.ne_of_lt (Nat.lt_of_lt_of_le (fc329_0).lt S1338)
    have ne_rb315_qa338 : rb315 ≠ qa338 := Nat.ne_of_lt (Nat.lt_of_lt_of_le (fc329_10).lt S1338)
    have ne_ml315_qa338 : ml315 ≠ qa338 := Nat.ne_of_lt (Nat.lt_of_lt_of_le (fc329_11).lt S1338)
    have ne_ln315_qa338 : ln315 ≠ qa338 := Nat.ne_of_lt (Nat.lt_of_lt_of_le (fc329_12).lt S1338)
    have ne_pe315_qa338 : pe315 ≠ qa338 := Nat.ne_of_lt (Nat.lt_of_lt_of_le (fc329_13).lt S1338)
    have ne_pu315_qa338 : pu315 ≠ qa338 := Nat.ne_of_lt (Nat.lt_of_lt_of_le (fc329_14).lt S1338)
    have ne_pc315_qa338 : pc315 ≠ qa338 := Nat.ne_of_lt (Nat.lt_of_lt_of_le (fc329_15).lt S1338)
    have ne_ra_qb338 : ra ≠ qb338 := Nat.ne_of_lt (Nat.lt_of_lt_of_le (f332).lt S2338)
    have ne_ca_qb338 : ca ≠ qb338 := Nat.ne_of_lt (Nat.lt_of_lt_of_le (f333).lt S2338)
    have ne_rc_qb338 : rc ≠ qb338 := Nat.ne_of_lt (Nat.lt_of_lt_of_le (f334).lt S2338)
    have ne_cc_qb338 : cc ≠ qb338 := Nat.ne_of_lt (Nat.lt_of_lt_of_le (f335).lt S2338)
    have ne_b299_qb338 : b299 ≠ qb338 := Nat.ne_of_lt (Nat.lt_of_lt_of_le (f336).lt S2338)
    have ne_b313_qb338 : b313 ≠ qb338 := Nat.ne_of_lt (Nat.lt_of_lt_of_le (fc329_0).lt S2338)
    have ne_rb315_qb338 : rb315 ≠ qb338 := Nat.ne_of_lt (Nat.lt_of_lt_of_le (fc329_10).lt S2338)
    have ne_ml315_qb338 : ml315 ≠ qb338 := Nat.ne_of_lt (Nat.lt_of_lt_of_le (fc329_11).lt S2338)
    have ne_ln315_qb338 : ln315 ≠ qb338 := Nat.ne_of_lt (Nat.lt_of_lt_of_le (fc329_12).lt S2338)
    have ne_pe315_qb338 : pe315 ≠ qb338 := Nat.ne_of_lt (Nat.lt_of_lt_of_le (fc329_13).lt S2338)
    have ne_pu315_qb338 : pu315 ≠ qb338 := Nat.ne_of_lt (Nat.lt_of_lt_of_le (fc329_14).lt S2338)
    have ne_pc315_qb338 : pc315 ≠ qb338 := Nat.ne_of_lt (Nat.lt_of_lt_of_le (fc329_15).lt S2338)
    obtain ⟨fc338_0, fc338_1, fc338_2, fc338_3, fc338_4, fc338_5, fc338_6, fc338_7, fc338_8, fc338_9, fc338_10, fc338_11, fc338_12, fc338_13, fc338_14, fc338_15⟩ := id FA338
    have K339 : own_K p e below G0 T338 (FZ 562 [.unset, .unset, .unset, .unset, .unset, .unset, .unset, .unset, .unset, .unset, .unset, .unset, .unset, .unset, .unset, .unset, .unset] [(.double (FP.i2d m3i)), (.int (1 : Int32)), (.int ec), (.ref b313)]) := by
      intro t kt
      refine K338 t ?_
      refine XS.aload X338.here hx rfl (hb hby at_554) rfl rfl ?_
      show own_S p e below T338 (mkF m 556 _ [(.ref b313)]) _
      refine XS.iload X338.here hx rfl (hb hby at_556) rfl ?_
      show own_S p e below T338 (mkF m 558 _ [(.int ec), (.ref b313)]) _
      refine XS.iconst X338.here hx rfl (hb hby at_558) ?_
      show own_S p e below T338 (mkF m 559 _ [(.int (1 : Int32)), (.int ec), (.ref b313)]) _
      refine XS.iload X338.here hx rfl (hb hby at_559) rfl ?_
      show own_S p e below T338 (mkF m 561 _ [(.int m3i), (.int (1 : Int32)), (.int ec), (.ref b313)]) _
      refine XS.i2dS X338.here hx rfl (hb hby at_561) rfl rfl ?_
      show own_S p e below T338 (mkF m 562 _ [(.double (FP.i2d m3i)), (.int (1 : Int32)), (.int ec), (.ref b313)]) _
      exact kt
    have FAx340 : own_Fac Z T338.heap b313 rb315 ml315 ln315 pe315 pu315 pc315 kr315 km315 kl315 ke315 ku315 kc315 (3 : Int32) (2 : Int32) ((0 : Int64) + (1 : Int64)) (own_l3 (own_u ec (.ref qa338) (fun _ => .null))) (own_l3 (own_u ec (.ref qb338) (fun _ => .null))) (own_l3 (own_u ec (.int (1 : Int32)) (fun _ => (.int (0 : Int32))))) [(.int ea), (.int eb), (.int (0 : Int32))] [(.ref ra), (.ref rc), .null] [(.ref ca), (.ref cc), .null] := ⟨fc338_0, fc338_1, fc338_2, fc338_3, fc338_4, fc338_5, fc338_6, fc338_7, fc338_8, fc338_9, fc338_10, fc338_11, fc338_12, fc338_13, fc338_14, fc338_15⟩
    obtain ⟨cq341, kq341, q341a, q341b, q341c⟩ := isOf hZ (rfl : T338.heap = _) fc338_0
    obtain ⟨v342, _, ⟨T342, L342, k342, n342⟩, -, X342, ⟨Lc342, hQ342, l342, y342, z342⟩, st342⟩ := X338.virtualBack hx (y := (⟨"com/example/sondage/sondage/inference/Factorization", "reduced", "(IID)V"⟩ : MethodName)) (z := (⟨"com/example/sondage/sondage/inference/Factorization", "reduced", "(IID)V"⟩ : MethodName)) hown (mvT hZ (hw _ (List.mem_of_getElem? (i := 46) rfl))) (mvT hZ (hw _ (List.mem_of_getElem? (i := 47) rfl))) (notFace_of_selects (args := #[]) (mvT hZ (hw _ (List.mem_of_getElem? (i := 49) rfl)))) (mvT hZ (hw _ (List.mem_of_getElem? (i := 49) rfl))) (mvT hZ (hw _ (List.mem_of_getElem? (i := 48) rfl))) (by decide) (backOf (W := 0) (rm5_2 l Z aa hw [] (b313) (ec) ((1 : Int32)) ((FP.i2d m3i)) rb315 ml315 ln315 pe315 pu315 pc315 kr315 km315 kl315 ke315 ku315 kc315 ((0 : Int64) + (1 : Int64)) (2 : Int32) (own_u ec (.ref qa338) (fun _ => .null)) (own_u ec (.ref qb338) (fun _ => .null)) (own_u ec (.int (1 : Int32)) (fun _ => (.int (0 : Int32)))) [(.int ea), (.int eb), (.int (0 : Int32))] [(.ref ra), (.ref rc), .null] [(.ref ca), (.ref cc), .null] qa338 qb338 ka338 kb338 (.int (0 : Int32)) (.int (0 : Int32)) (.int (0 : Int32)) (.int (0 : Int32)) (.double (FP.i2d m2i)) (.double 0) (.double 0) (.double 0) T338.heap n0 Z338 SP315 FAx340 hRec own_u1 own_u1 own_u1 W1338 W2338 G1338 G2338 ne_qa338_qb338 ne_b313_qa338 ne_rb315_qa338 ne_ml315_qa338 ne_ln315_qa338 ne_pe315_qa338 ne_pu315_qa338 ne_pc315_qa338 ne_b313_qb338 ne_rb315_qb338 ne_ml315_qb338 ne_ln315_qb338 ne_pe315_qb338 ne_pu315_qb338 ne_pc315_qb338) hZ (hw _ (List.mem_of_getElem? (i := 50) rfl)) (hw _ (List.mem_of_getElem? (i := 7) rfl)) (by decide) (by decide)) q341a q341c (g := (FZ 562 [.unset, .unset, .unset, .unset, .unset, .unset, .unset, .unset, .unset, .unset, .unset, .unset, .unset, .unset, .unset, .unset, .unset] [(.double (FP.i2d m3i)), (.int (1 : Int32)), (.int ec), (.ref b313)])) rfl (by rw [hml]; rfl) (Steps.refl _) (argsL := [(.int ec), (.int (1 : Int32)), (.double (FP.i2d m3i))]) (rest := []) (lenOf pd_PIIDQV rfl) rfl (by show 2 * 0 + _ ≤ _; exact Nat.le_of_eq rfl) (hb hby at_562) (fun _ _ => ⟨rfl, (rfl : T338.heap = _), (by decide : 22 + 0 ≤ _), (by decide : 76 + 0 ≤ _)⟩)
    dsimp only [Pt.U, Pt.locs, Pt.cells, Pt.slots] at X342 l342 y342 z342 st342 hQ342
    subst l342 y342 z342
    obtain ⟨rfl, N342q, KV342, FA342⟩ := hQ342
    have N342 := Fr.app N338 N342q
    have K342 : own_K p e below G0 T342 (FZ 565 [.unset, .unset, .unset, .unset, .unset, .unset, .unset, .unset, .unset, .unset, .unset, .unset, .unset, .unset, .unset, .unset, .unset] []) := fun t kt => K339 t (st342.trans kt)
    have Z342 : n0 ≤ T342.heap.size := Nat.le_trans Z338 KV342.1
    obtain ⟨fc342_0, fc342_1, fc342_2, fc342_3, fc342_4, fc342_5, fc342_6, fc342_7, fc342_8, fc342_9, fc342_10, fc342_11, fc342_12, fc342_13, fc342_14, fc342_15⟩ := id FA342
    have K343 : own_K p e below G0 T342 (FZ 569 [.unset, .unset, .unset, .unset, .unset, .unset, .unset, .unset, .unset, .unset, .unset, .unset, .unset, .unset, .unset, .unset, .unset] [(.ref b299), (.ref b313)]) := by
      intro t kt
      refine K342 t ?_
      refine XS.aload X342.here hx rfl (hb hby at_565) rfl rfl ?_
      show own_S p e below T342 (mkF m 567 _ [(.ref b313)]) _
      refine XS.aload X342.here hx rfl (hb hby at_567) rfl rfl ?_
      show own_S p e below T342 (mkF m 569 _ [(.ref b299), (.ref b313)]) _
      exact kt
    have FAx344 : own_Fac Z T342.heap b313 rb315 ml315 ln315 pe315 pu315 pc315 kr315 km315 kl315 ke315 ku315 kc315 (3 : Int32) (2 : Int32) (((0 : Int64) + (1 : Int64)) + (1 : Int64)) (own_l3 (own_u ec (.ref qa338) (fun _ => .null))) (own_l3 (own_u ec (.ref qb338) (fun _ => .null))) (own_l3 (own_u ec (.int (2 : Int32)) (own_u ec (.int (1 : Int32)) (fun _ => (.int (0 : Int32)))))) [(.int ea), (.int eb), (.int (0 : Int32))] [(.ref ra), (.ref rc), .null] [(.ref ca), (.ref cc), .null] := ⟨fc342_0, fc342_1, fc342_2, fc342_3, fc342_4, fc342_5, fc342_6, fc342_7, fc342_8, fc342_9, fc342_10, fc342_11, fc342_12, fc342_13, fc342_14, fc342_15⟩
    have KQ345_0 := Keep.refl hJ []
    have sz345_299 := Nat.le_trans KQ345_0.1 (Nat.le_of_eq g299.symm)
    have KQ345_1 := KQ345_0.ext E299
    have KQ345_2 := KQ345_1.wr W302 (Or.inr sz345_299)
    have KQ345_3 := KQ345_2.wr W305 (Or.inr sz345_299)
    have KQ345_4 := KQ345_3.wr W308 (Or.inr sz345_299)
    have sz345_rb315 := Nat.le_trans KQ345_4.1 sg1
    have sz345_ml315 := Nat.le_trans KQ345_4.1 sg2
    have sz345_ln315 := Nat.le_trans KQ345_4.1 sg3
    have sz345_pe315 := Nat.le_trans KQ345_4.1 sg4
    have sz345_pu315 := Nat.le_trans KQ345_4.1 sg5
    have sz345_pc315 := Nat.le_trans KQ345_4.1 sg6
    have sz345_313 := Nat.le_trans KQ345_4.1 (Nat.le_of_eq g313.symm)
    have KQ345_11 := KQ345_4.ext E313
    have KQ345_12 := KQ345_11.trans KV315 (fun x hx => by simp only [List.mem_cons, List.not_mem_nil, or_false] at hx; rcases hx with rfl <;> first | exact (Or.inr sz345_313))
    have KQ345_13 := KQ345_12.trans KV321 (fun x hx => by simp only [List.mem_cons, List.not_mem_nil, or_false] at hx; rcases hx with rfl | rfl | rfl | rfl <;> first | exact (Or.inr sz345_313) | exact (Or.inr sz345_pe315) | exact (Or.inr sz345_pu315) | exact (Or.inr sz345_pc315))
    have KQ345_14 := KQ345_13.trans KV329 (fun x hx => by simp only [List.mem_cons, List.not_mem_nil, or_false] at hx; rcases hx with rfl | rfl | rfl | rfl <;> first | exact (Or.inr sz345_313) | exact (Or.inr sz345_pe315) | exact (Or.inr sz345_pu315) | exact (Or.inr sz345_pc315))
    have sz345_qa338 := Nat.le_trans KQ345_14.1 S1338
    have sz345_qb338 := Nat.le_trans KQ345_14.1 S2338
    have KQ345_17 := KQ345_14.trans KV338 (fun x hx => by simp only [List.mem_cons, List.not_mem_nil, or_false] at hx; rcases hx with rfl | rfl | rfl | rfl <;> first | exact (Or.inr sz345_313) | exact (Or.inr sz345_rb315) | exact (Or.inr sz345_ml315) | exact (Or.inr sz345_ln315))
    have KQ345_18 := KQ345_17.trans KV342 (fun x hx => by simp only [List.mem_cons, List.not_mem_nil, or_false] at hx; rcases hx with rfl | rfl | rfl | rfl <;> first | exact (Or.inr sz345_313) | exact (Or.inr sz345_ln315) | exact (Or.inr sz345_qa338) | exact (Or.inr sz345_qb338))
    have RW346 := own_Rows.keep0 RWJ KQ345_18
    have f347 := ((f336.keep KV338 (by simp only [List.mem_cons, List.not_mem_nil, or_false, not_or]; exact ⟨ne_b299_b313, ne_b299_rb315, ne_b299_ml315, ne_b299_ln315⟩)).keep KV342 (by simp only [List.mem_cons, List.not_mem_nil, or_false, not_or]; exact ⟨ne_b299_b313, ne_b299_ln315, ne_b299_qa338, ne_b299_qb338⟩))
    obtain ⟨cq348, kq348, q348a, q348b, q348c⟩ := isOf hZ (rfl : T342.heap = _) fc342_0
    obtain ⟨v349, _, ⟨T349, L349, k349, n349⟩, -, X349, ⟨Lc349, hQ349, l349, y349, z349⟩, st349⟩ := X342.virtualBack hx (y := (⟨"com/example/sondage/sondage/inference/Factorization", "solve", "([D)[D"⟩ : MethodName)) (z := (⟨"com/example/sondage/sondage/inference/Factorization", "solve", "([D)[D"⟩ : MethodName)) hown (mvT hZ (hw _ (List.mem_of_getElem? (i := 53) rfl))) (mvT hZ (hw _ (List.mem_of_getElem? (i := 54) rfl))) (notFace_of_selects (args := #[]) (mvT hZ (hw _ (List.mem_of_getElem? (i := 56) rfl)))) (mvT hZ (hw _ (List.mem_of_getElem? (i := 56) rfl))) (mvT hZ (hw _ (List.mem_of_getElem? (i := 55) rfl))) (by decide) (backOf (W := 0) (rm6_0 l Z aa hw [] (b313) (b299) wb rb315 ml315 ln315 pe315 pu315 pc315 ra ca rc cc kr315 km315 kl315 ke315 ku315 kc315 k299 (((0 : Int64) + (1 : Int64)) + (1 : Int64)) (own_u ec (.ref qa338) (fun _ => .null)) (own_u ec (.ref qb338) (fun _ => .null)) (own_u ec (.int (2 : Int32)) (own_u ec (.int (1 : Int32)) (fun _ => (.int (0 : Int32))))) (own_u ec (.double (FP.i2d j2)) (own_u eb (.double (FP.i2d j1)) (own_u ea (.double (FP.i2d j0)) (fun _ => (.double 0))))) (.int (0 : Int32)) .null .null ea eb g0 g1 gf (FP.i2d j0) (FP.i2d j1) (FP.i2d ai) (FP.i2d bi) (FP.i2d ci) (FP.i2d di) j0.toInt j1.toInt (0 : Int) ai.toInt Aq bi.toInt ci.toInt Cq di.toInt T342.heap n0 Z342 FAx344 f347 ((own_u2 ne_ea_ec).trans ((own_u2 ne_ea_eb).trans own_u1)) ((own_u2 ne_eb_ec).trans own_u1) hRea hReb hRg0 hRg1 hRgf ne_g0_g1 ne_g0_gf ne_g1_gf ((own_u2 ne_ea_ec).trans ((own_u2 ne_ea_ec).trans rfl)) (own_V_i2d j0) (own_V_i2d j1) (own_V_i2d ai) (own_V_i2d bi) (own_V_i2d ci) (own_V_i2d di) hAq hCq bAq bCq b_bi (by decide) (own_I32 j0) (own_I32 j1) RW346 ((own_u2 ne_eb_ec).trans ((own_u2 ne_eb_ec).trans rfl)) rfl) hZ (hw _ (List.mem_of_getElem? (i := 57) rfl)) (hw _ (List.mem_of_getElem? (i := 7) rfl)) (by decide) (by decide)) q348a q348c (g := (FZ 569 [.unset, .unset, .unset, .unset, .unset, .unset, .unset, .unset, .unset, .unset, .unset, .unset, .unset, .unset, .unset, .unset, .unset] [(.ref b299), (.ref b313)])) rfl (by rw [hml]; rfl) (Steps.refl _) (argsL := [(.ref b299)]) (rest := []) (lenOf pd_P_DQ_D rfl) rfl (by show 2 * 0 + _ ≤ _; exact Nat.le_of_eq rfl) (hb hby at_569) (fun _ _ => ⟨rfl, (rfl : T342.heap = _), (by decide : 22 + 2 ≤ _), (by decide : 76 + 5 ≤ _)⟩)
    dsimp only [Pt.U, Pt.locs, Pt.cells, Pt.slots] at X349 l349 y349 z349 st349 hQ349
    subst l349 y349 z349
    obtain ⟨r349, kx349, y349, x349, rfl, N349q, KV349, VX349, q1349, q0349⟩ := hQ349
    have N349 := Fr.app N342 N349q
    have K349 : own_K p e below G0 T349 (FZ 572 [.unset, .unset, .unset, .unset, .unset, .unset, .unset, .unset, .unset, .unset, .unset, .unset, .unset, .unset, .unset, .unset, .unset] [(.ref r349)]) := fun t kt => K343 t (st349.trans kt)
    have Z349 : n0 ≤ T349.heap.size := Nat.le_trans Z342 KV349.1
    have K350 : own_K p e below G0 T349 (FZ 576 [.val (.ref r349), .unset, .unset, .unset, .unset, .unset, .unset, .unset, .unset, .unset, .unset, .unset, .unset, .unset, .unset, .unset, .unset] [(.ref r349)]) := by
      intro t kt
      refine K349 t ?_
      refine XS.astore X349.here hx rfl (hb hby at_572) rfl rfl (l' := (FZ 0 [.val (.ref r349), .unset, .unset, .unset, .unset, .unset, .unset, .unset, .unset, .unset, .unset, .unset, .unset, .unset, .unset, .unset, .unset] []).locals) rfl ?_
      show own_S p e below T349 (mkF m 574 _ []) _
      refine XS.aload X349.here hx rfl (hb hby at_574) rfl rfl ?_
      show own_S p e below T349 (mkF m 576 _ [(.ref r349)]) _
      exact kt
    obtain ⟨cl351, Ar351, qq351, S351, M351, H351, GG351⟩ := id VX349
    have K352 : own_K p e below G0 T349 (FZ 587 [.val (.ref r349), .unset, .unset, .unset, .unset, .unset, .unset, .unset, .unset, .unset, .unset, .unset, .unset, .unset, .unset, .unset, .unset] [(.int g0), (.ref r349)]) := by
      intro t kt
      refine K350 t ?_
      refine X349.arraylength hx (by rw [(rfl : T349.heap = _)]; exact (Ar351).1) (State.isArrayOf_alike hZ.alike (Ar351).2.1) (g := (FZ 576 [.val (.ref r349), .unset, .unset, .unset, .unset, .unset, .unset, .unset, .unset, .unset, .unset, .unset, .unset, .unset, .unset, .unset, .unset] [(.ref r349)])) rfl rfl (hb hby at_576) _ ?_
      rw [len_of S351 M351]
      show own_S p e below T349 (FZ 577 [.val (.ref r349), .unset, .unset, .unset, .unset, .unset, .unset, .unset, .unset, .unset, .unset, .unset, .unset, .unset, .unset, .unset, .unset] [(.int (3 : Int32))]) _
      refine XS.iconst X349.here hx rfl (hb hby at_577) ?_
      show own_S p e below T349 (mkF m 578 _ [(.int (3 : Int32)), (.int (3 : Int32))]) _
      refine XS.icmpYes X349.here hx rfl (pc0 := 578) (pc' := 583) rfl (hb hby at_578) rfl (teq (by decide)).1 (by decide) (by decide) ?_
      show own_S p e below T349 (mkF m 583 _ []) _
      refine XS.aload X349.here hx rfl (hb hby at_583) rfl rfl ?_
      show own_S p e below T349 (mkF m 585 _ [(.ref r349)]) _
      refine XS.iload X349.here hx rfl (hb hby at_585) rfl ?_
      show own_S p e below T349 (mkF m 587 _ [(.int g0), (.ref r349)]) _
      exact kt
    obtain ⟨cl353, Ar353, qq353, S353, M353, H353, GG353⟩ := id VX349
    have hin353 := inb_of S353 (own_in3 hRg0)
    have hat353 : cl353.slots[(g0).toNatClampNeg]? = some (.double y349) := Has.at H353 hin353 ((own_g3 hRg0).trans own_u1)
    have K354 : own_K p e below G0 T349 (FZ 594 [.val (.ref r349), .val (.double y349), .second, .unset, .unset, .unset, .unset, .unset, .unset, .unset, .unset, .unset, .unset, .unset, .unset, .unset, .unset] [(.int g1), (.ref r349)]) := by
      intro t kt
      refine K352 t ?_
      refine X349.daload hx (j := g0) (v := (.double y349)) (by rw [(rfl : T349.heap = _)]; exact (Ar353).1) (State.isArrayOf_alike hZ.alike (Ar353).2.1) (Ar353).2.2 hin353 hat353 (g := (FZ 587 [.val (.ref r349), .unset, .unset, .unset, .unset, .unset, .unset, .unset, .unset, .unset, .unset, .unset, .unset, .unset, .unset, .unset, .unset] [(.int g0), (.ref r349)])) rfl rfl (hb hby at_587) _ ?_
      show own_S p e below T349 (mkF m 588 _ [(.double y349)]) _
      refine XS.dstore X349.here hx rfl (hb hby at_588) rfl (l' := (FZ 0 [.val (.ref r349), .val (.double y349), .second, .unset, .unset, .unset, .unset, .unset, .unset, .unset, .unset, .unset, .unset, .unset, .unset, .unset, .unset] []).locals) rfl ?_
      show own_S p e below T349 (mkF m 590 _ []) _
      refine XS.aload X349.here hx rfl (hb hby at_590) rfl rfl ?_
      show own_S p e below T349 (mkF m 592 _ [(.ref r349)]) _
      refine XS.iload X349.here hx rfl (hb hby at_592) rfl ?_
      show own_S p e below T349 (mkF m 594 _ [(.int g1), (.ref r349)]) _
      exact kt
    obtain ⟨cl355, Ar355, qq355, S355, M355, H355, GG355⟩ := id VX349
    have hin355 := inb_of S355 (own_in3 hRg1)
    have hat355 : cl355.slots[(g1).toNatClampNeg]? = some (.double x349) := Has.at H355 hin355 ((own_g3 hRg1).trans ((own_u2 (Ne.symm ne_g0_g1)).trans own_u1))
    have K356 : own_K p e below G0 T349 (FZ 601 [.val (.ref r349), .val (.double y349), .second, .val (.double x349), .second, .unset, .unset, .unset, .unset, .unset, .unset, .unset, .unset, .unset, .unset, .unset, .unset] [(.int gf), (.ref r349)]) := by
      intro t kt
      refine K354 t ?_
      refine X349.daload hx (j := g1) (v := (.double x349)) (by rw [(rfl : T349.heap = _)]; exact (Ar355).1) (State.isArrayOf_alike hZ.alike (Ar355).2.1) (Ar355).2.2 hin355 hat355 (g := (FZ 594 [.val (.ref r349), .val (.double y349), .second, .unset, .unset, .unset, .unset, .unset, .unset, .unset, .unset, .unset, .unset, .unset, .unset, .unset, .unset] [(.int g1), (.ref r349)])) rfl rfl (hb hby at_594) _ ?_
      show own_S p e below T349 (mkF m 595 _ [(.double x349)]) _
      refine XS.dstore X349.here hx rfl (hb hby at_595) rfl (l' := (FZ 0 [.val (.ref r349), .val (.double y349), .second, .val (.double x349), .second, .unset, .unset, .unset, .unset, .unset, .unset, .unset, .unset, .unset, .unset, .unset, .unset] []).locals) rfl ?_
      show own_S p e below T349 (mkF m 597 _ []) _
      refine XS.aload X349.here hx rfl (hb hby at_597) rfl rfl ?_
      show own_S p e below T349 (mkF m 599 _ [(.ref r349)]) _
      refine XS.iload X349.here hx rfl (hb hby at_599) rfl ?_
      show own_S p e below T349 (mkF m 601 _ [(.int gf), (.ref r349)]) _
      exact kt
    obtain ⟨cl357, Ar357, qq357, S357, M357, H357, GG357⟩ := id VX349
    have hin357 := inb_of S357 (own_in3 hRgf)
    have hat357 : cl357.slots[(gf).toNatClampNeg]? = some (.double 0) := Has.at H357 hin357 ((own_g3 hRgf).trans ((own_u2 (Ne.symm ne_g0_gf)).trans ((own_u2 (Ne.symm ne_g1_gf)).trans rfl)))
    have K358 : own_K p e below G0 T349 (FZ 608 [.val (.ref r349), .val (.double y349), .second, .val (.double x349), .second, .val (.double 0), .second, .unset, .unset, .unset, .unset, .unset, .unset, .unset, .unset, .unset, .unset] [(.int (cmpValue (FP.dcmp 0 FP.dconst0) .l))]) := by
      intro t kt
      refine K356 t ?_
      refine X349.daload hx (j := gf) (v := (.double 0)) (by rw [(rfl : T349.heap = _)]; exact (Ar357).1) (State.isArrayOf_alike hZ.alike (Ar357).2.1) (Ar357).2.2 hin357 hat357 (g := (FZ 601 [.val (.ref r349), .val (.double y349), .second, .val (.double x349), .second, .unset, .unset, .unset, .unset, .unset, .unset, .unset, .unset, .unset, .unset, .unset, .unset] [(.int gf), (.ref r349)])) rfl rfl (hb hby at_601) _ ?_
      show own_S p e below T349 (mkF m 602 _ [(.double 0)]) _
      refine XS.dstore X349.here hx rfl (hb hby at_602) rfl (l' := (FZ 0 [.val (.ref r349), .val (.double y349), .second, .val (.double x349), .second, .val (.double 0), .second, .unset, .unset, .unset, .unset, .unset, .unset, .unset, .unset, .unset, .unset] []).locals) rfl ?_
      show own_S p e below T349 (mkF m 604 _ []) _
      refine XS.dload X349.here hx rfl (hb hby at_604) rfl ?_
      show own_S p e below T349 (mkF m 606 _ [(.double 0)]) _
      refine XS.dconst0 X349.here hx rfl (hb hby at_606) rfl ?_
      show own_S p e below T349 (mkF m 607 _ [(.double FP.dconst0), (.double 0)]) _
      refine XS.dcmpS X349.here hx rfl (hb hby at_607) rfl rfl ?_
      show own_S p e below T349 (mkF m 608 _ [(.int (cmpValue (FP.dcmp 0 FP.dconst0) .l))]) _
      exact kt
    have hz0 := (own_V_z0 (k := 0) (by omega) own_V_0 (own_V_i2d di) own_V_0 (by decide)).1
    have K359 : own_K p e below G0 T349 (FZ 615 [.val (.ref r349), .val (.double y349), .second, .val (.double x349), .second, .val (.double 0), .second, .unset, .unset, .unset, .unset, .unset, .unset, .unset, .unset, .unset, .unset] [(.int wdf)]) := by
      intro t kt
      refine K358 t ?_
      refine XS.ifYes X349.here hx rfl (pc0 := 608) (pc' := 613) rfl (hb hby at_608) rfl ((if0 _ _).trans (teq (by decide +kernel)).1) (by decide) (by decide) ?_
      show own_S p e below T349 (mkF m 613 _ []) _
      refine XS.iload X349.here hx rfl (hb hby at_613) rfl ?_
      show own_S p e below T349 (mkF m 615 _ [(.int wdf)]) _
      exact kt
    have K360 : own_K p e below G0 T349 (FZ 629 [.val (.ref r349), .val (.double y349), .second, .val (.double x349), .second, .val (.double 0), .second, .val (.double (if wdf = (0 : Int32) then FP.dconst0 else (FP.dmul (FP.i2d di) 0))), .second, .unset, .unset, .unset, .unset, .unset, .unset, .unset, .unset] []) := by
      by_cases hc361 : wdf = (0 : Int32)
      ·
        have K362 : own_K p e below G0 T349 (FZ 629 [.val (.ref r349), .val (.double y349), .second, .val (.double x349), .second, .val (.double 0), .second, .val (.double FP.dconst0), .second, .unset, .unset, .unset, .unset, .unset, .unset, .unset, .unset] []) := by
          intro t kt
          refine K359 t ?_
          refine XS.ifYes X349.here hx rfl (pc0 := 615) (pc' := 626) rfl (hb hby at_615) rfl ((if0 _ _).trans (teq hc361).1) (by decide) (by decide) ?_
          show own_S p e below T349 (mkF m 626 _ []) _
          refine XS.dconst0 X349.here hx rfl (hb hby at_626) rfl ?_
          show own_S p e below T349 (mkF m 627 _ [(.double FP.dconst0)]) _
          refine XS.dstore X349.here hx rfl (hb hby at_627) rfl (l' := (FZ 0 [.val (.ref r349), .val (.double y349), .second, .val (.double x349), .second, .val (.double 0), .second, .val (.double FP.dconst0), .second, .unset, .unset, .unset, .unset, .unset, .unset, .unset, .unset] []).locals) rfl ?_
          show own_S p e below T349 (mkF m 629 _ []) _
          exact kt
        rw [if_pos hc361]
        exact K362
      ·
        have K363 : own_K p e below G0 T349 (FZ 629 [.val (.ref r349), .val (.double y349), .second, .val (.double x349), .second, .val (.double 0), .second, .val (.double (FP.dmul (FP.i2d di) 0)), .second, .unset, .unset, .unset, .unset, .unset, .unset, .unset, .unset] []) := by
          intro t kt
          refine K359 t ?_
          refine XS.ifNo X349.here hx rfl (hb hby at_615) rfl ((if0 _ _).trans (feq hc361).1) ?_
          show own_S p e below T349 (mkF m 618 _ []) _
          refine XS.dload X349.here hx rfl (hb hby at_618) rfl ?_
          show own_S p e below T349 (mkF m 620 _ [(.double (FP.i2d di))]) _
          refine XS.dload X349.here hx rfl (hb hby at_620) rfl ?_
          show own_S p e below T349 (mkF m 622 _ [(.double 0), (.double (FP.i2d di))]) _
          refine XS.dmulS X349.here hx rfl (hb hby at_622) rfl (own_V_nonan hz0) rfl ?_
          show own_S p e below T349 (mkF m 623 _ [(.double (FP.dmul (FP.i2d di) 0))]) _
          refine XS.goto X349.here hx rfl (pc0 := 623) (pc' := 627) rfl (hb hby at_623) (by decide) (by decide) ?_
          show own_S p e below T349 (mkF m 627 _ [(.double (FP.dmul (FP.i2d di) 0))]) _
          refine XS.dstore X349.here hx rfl (hb hby at_627) rfl (l' := (FZ 0 [.val (.ref r349), .val (.double y349), .second, .val (.double x349), .second, .val (.double 0), .second, .val (.double (FP.dmul (FP.i2d di) 0)), .second, .unset, .unset, .unset, .unset, .unset, .unset, .unset, .unset] []).locals) rfl ?_
          show own_S p e below T349 (mkF m 629 _ []) _
          exact kt
        rw [if_neg hc361]
        exact K363
    obtain ⟨dp, h_dp⟩ : ∃ z, z = (if wdf = (0 : Int32) then FP.dconst0 else (FP.dmul (FP.i2d di) 0)) := ⟨_, rfl⟩
    rw [← h_dp] at K360
    have vp : own_V 0 0 dp := by
      rw [h_dp]
      split
      · exact own_V_0
      · exact hz0
    obtain ⟨z1, z2, z3, z4, z5, z6, z7, z8, z9, z10⟩ := own_tail (me := FP.dconst0) (own_V_i2d j0) (own_V_i2d j1) own_V_0 (own_V_i2d ai) (own_V_i2d bi) (own_V_i2d ci) vp hAq hCq bAq bCq b_bi (by decide) (own_I32 j0) (own_I32 j1) rfl q1349 q0349
    have K364 : own_K p e below G0 T349 (FZ 657 [.val (.ref r349), .val (.double y349), .second, .val (.double x349), .second, .val (.double 0), .second, .val (.double dp), .second, .val (.double (FP.dadd (FP.dadd (FP.dmul (FP.i2d ai) y349) (FP.dmul (FP.i2d bi) x349)) dp)), .second, .val (.double (FP.dadd (FP.dmul (FP.i2d ci) x349) dp)), .second, .unset, .unset, .unset, .unset] [(.int rdf)]) := by
      intro t kt
      refine K360 t ?_
      refine XS.dload X349.here hx rfl (hb hby at_629) rfl ?_
      show own_S p e below T349 (mkF m 631 _ [(.double (FP.i2d ai))]) _
      refine XS.dload X349.here hx rfl (hb hby at_631) rfl ?_
      show own_S p e below T349 (mkF m 633 _ [(.double y349), (.double (FP.i2d ai))]) _
      refine XS.dmulS X349.here hx rfl (hb hby at_633) rfl z1 rfl ?_
      show own_S p e below T349 (mkF m 634 _ [(.double (FP.dmul (FP.i2d ai) y349))]) _
      refine XS.dload X349.here hx rfl (hb hby at_634) rfl ?_
      show own_S p e below T349 (mkF m 636 _ [(.double (FP.i2d bi)), (.double (FP.dmul (FP.i2d ai) y349))]) _
      refine XS.dload X349.here hx rfl (hb hby at_636) rfl ?_
      show own_S p e below T349 (mkF m 638 _ [(.double x349), (.double (FP.i2d bi)), (.double (FP.dmul (FP.i2d ai) y349))]) _
      refine XS.dmulS X349.here hx rfl (hb hby at_638) rfl z2 rfl ?_
      show own_S p e below T349 (mkF m 639 _ [(.double (FP.dmul (FP.i2d bi) x349)), (.double (FP.dmul (FP.i2d ai) y349))]) _
      refine XS.daddS X349.here hx rfl (hb hby at_639) rfl z3 rfl ?_
      show own_S p e below T349 (mkF m 640 _ [(.double (FP.dadd (FP.dmul (FP.i2d ai) y349) (FP.dmul (FP.i2d bi) x349)))]) _
      refine XS.dload X349.here hx rfl (hb hby at_640) rfl ?_
      show own_S p e below T349 (mkF m 642 _ [(.double dp), (.double (FP.dadd (FP.dmul (FP.i2d ai) y349) (FP.dmul (FP.i2d bi) x349)))]) _
      refine XS.daddS X349.here hx rfl (hb hby at_642) rfl z4 rfl ?_
      show own_S p e below T349 (mkF m 643 _ [(.double (FP.dadd (FP.dadd (FP.dmul (FP.i2d ai) y349) (FP.dmul (FP.i2d bi) x349)) dp))]) _
      refine XS.dstore X349.here hx rfl (hb hby at_643) rfl (l' := (FZ 0 [.val (.ref r349), .val (.double y349), .second, .val (.double x349), .second, .val (.double 0), .second, .val (.double dp), .second, .val (.double (FP.dadd (FP.dadd (FP.dmul (FP.i2d ai) y349) (FP.dmul (FP.i2d bi) x349)) dp)), .second, .unset, .unset, .unset, .unset, .unset, .unset] []).locals) rfl ?_
      show own_S p e below T349 (mkF m 645 _ []) _
      refine XS.dload X349.here hx rfl (hb hby at_645) rfl ?_
      show own_S p e below T349 (mkF m 647 _ [(.double (FP.i2d ci))]) _
      refine XS.dload X349.here hx rfl (hb hby at_647) rfl ?_
      show own_S p e below T349 (mkF m 649 _ [(.double x349), (.double (FP.i2d ci))]) _
      refine XS.dmulS X349.here hx rfl (hb hby at_649) rfl z5 rfl ?_
      show own_S p e below T349 (mkF m 650 _ [(.double (FP.dmul (FP.i2d ci) x349))]) _
      refine XS.dload X349.here hx rfl (hb hby at_650) rfl ?_
      show own_S p e below T349 (mkF m 652 _ [(.double dp), (.double (FP.dmul (FP.i2d ci) x349))]) _
      refine XS.daddS X349.here hx rfl (hb hby at_652) rfl z6 rfl ?_
      show own_S p e below T349 (mkF m 653 _ [(.double (FP.dadd (FP.dmul (FP.i2d ci) x349) dp))]) _
      refine XS.dstore X349.here hx rfl (hb hby at_653) rfl (l' := (FZ 0 [.val (.ref r349), .val (.double y349), .second, .val (.double x349), .second, .val (.double 0), .second, .val (.double dp), .second, .val (.double (FP.dadd (FP.dadd (FP.dmul (FP.i2d ai) y349) (FP.dmul (FP.i2d bi) x349)) dp)), .second, .val (.double (FP.dadd (FP.dmul (FP.i2d ci) x349) dp)), .second, .unset, .unset, .unset, .unset] []).locals) rfl ?_
      show own_S p e below T349 (mkF m 655 _ []) _
      refine XS.iload X349.here hx rfl (hb hby at_655) rfl ?_
      show own_S p e below T349 (mkF m 657 _ [(.int rdf)]) _
      exact kt
    have K365 : own_K p e below G0 T349 (FZ 673 [.val (.ref r349), .val (.double y349), .second, .val (.double x349), .second, .val (.double 0), .second, .val (.double dp), .second, .val (.double (FP.dadd (FP.dadd (FP.dmul (FP.i2d ai) y349) (FP.dmul (FP.i2d bi) x349)) dp)), .second, .val (.double (FP.dadd (FP.dmul (FP.i2d ci) x349) dp)), .second, .val (.double FP.dconst0), .second, .unset, .unset] [(.int (cmpValue (FP.dcmp (FP.dadd (FP.dadd (FP.dmul (FP.i2d ai) y349) (FP.dmul (FP.i2d bi) x349)) dp) (FP.i2d j0)) .l))]) := by
      intro t kt
      refine K364 t ?_
      refine XS.ifYes X349.here hx rfl (pc0 := 657) (pc' := 665) rfl (hb hby at_657) rfl ((if0 _ _).trans (teq hc323).1) (by decide) (by decide) ?_
      show own_S p e below T349 (mkF m 665 _ []) _
      refine XS.dconst0 X349.here hx rfl (hb hby at_665) rfl ?_
      show own_S p e below T349 (mkF m 666 _ [(.double FP.dconst0)]) _
      refine XS.dstore X349.here hx rfl (hb hby at_666) rfl (l' := (FZ 0 [.val (.ref r349), .val (.double y349), .second, .val (.double x349), .second, .val (.double 0), .second, .val (.double dp), .second, .val (.double (FP.dadd (FP.dadd (FP.dmul (FP.i2d ai) y349) (FP.dmul (FP.i2d bi) x349)) dp)), .second, .val (.double (FP.dadd (FP.dmul (FP.i2d ci) x349) dp)), .second, .val (.double FP.dconst0), .second, .unset, .unset] []).locals) rfl ?_
      show own_S p e below T349 (mkF m 668 _ []) _
      refine XS.dload X349.here hx rfl (hb hby at_668) rfl ?_
      show own_S p e below T349 (mkF m 670 _ [(.double (FP.dadd (FP.dadd (FP.dmul (FP.i2d ai) y349) (FP.dmul (FP.i2d bi) x349)) dp))]) _
      refine XS.iloadN X349.here hx rfl (hb hby at_670) rfl ?_
      show own_S p e below T349 (mkF m 671 _ [(.int j0), (.double (FP.dadd (FP.dadd (FP.dmul (FP.i2d ai) y349) (FP.dmul (FP.i2d bi) x349)) dp))]) _
      refine XS.i2dS X349.here hx rfl (hb hby at_671) rfl rfl ?_
      show own_S p e below T349 (mkF m 672 _ [(.double (FP.i2d j0)), (.double (FP.dadd (FP.dadd (FP.dmul (FP.i2d ai) y349) (FP.dmul (FP.i2d bi) x349)) dp))]) _
      refine XS.dcmpS X349.here hx rfl (hb hby at_672) rfl rfl ?_
      show own_S p e below T349 (mkF m 673 _ [(.int (cmpValue (FP.dcmp (FP.dadd (FP.dadd (FP.dmul (FP.i2d ai) y349) (FP.dmul (FP.i2d bi) x349)) dp) (FP.i2d j0)) .l))]) _
      exact kt
    have K366 : own_K p e below G0 T349 (FZ 694 [.val (.ref r349), .val (.double y349), .second, .val (.double x349), .second, .val (.double 0), .second, .val (.double dp), .second, .val (.double (FP.dadd (FP.dadd (FP.dmul (FP.i2d ai) y349) (FP.dmul (FP.i2d bi) x349)) dp)), .second, .val (.double (FP.dadd (FP.dmul (FP.i2d ci) x349) dp)), .second, .val (.double FP.dconst0), .second, .val (.int (1 : Int32)), .unset] [(.int (cmpValue (FP.dcmp (FP.dadd (FP.dmul FP.dconst0 (FP.dadd (FP.dadd (FP.dmul (FP.i2d ai) y349) (FP.dmul (FP.i2d bi) x349)) dp)) (FP.dadd (FP.dmul (FP.i2d ci) x349) dp)) (FP.i2d j1)) .l))]) := by
      intro t kt
      refine K365 t ?_
      refine XS.ifNo X349.here hx rfl (hb hby at_673) rfl ((if0 _ _).trans (teq (by rw [z9]; rfl)).2) ?_
      show own_S p e below T349 (mkF m 676 _ []) _
      refine XS.iconst X349.here hx rfl (hb hby at_676) ?_
      show own_S p e below T349 (mkF m 677 _ [(.int (1 : Int32))]) _
      refine XS.goto X349.here hx rfl (pc0 := 677) (pc' := 681) rfl (hb hby at_677) (by decide) (by decide) ?_
      show own_S p e below T349 (mkF m 681 _ [(.int (1 : Int32))]) _
      refine XS.istore X349.here hx rfl (hb hby at_681) rfl (l' := (FZ 0 [.val (.ref r349), .val (.double y349), .second, .val (.double x349), .second, .val (.double 0), .second, .val (.double dp), .second, .val (.double (FP.dadd (FP.dadd (FP.dmul (FP.i2d ai) y349) (FP.dmul (FP.i2d bi) x349)) dp)), .second, .val (.double (FP.dadd (FP.dmul (FP.i2d ci) x349) dp)), .second, .val (.double FP.dconst0), .second, .val (.int (1 : Int32)), .unset] []).locals) rfl ?_
      show own_S p e below T349 (mkF m 683 _ []) _
      refine XS.dload X349.here hx rfl (hb hby at_683) rfl ?_
      show own_S p e below T349 (mkF m 685 _ [(.double FP.dconst0)]) _
      refine XS.dload X349.here hx rfl (hb hby at_685) rfl ?_
      show own_S p e below T349 (mkF m 687 _ [(.double (FP.dadd (FP.dadd (FP.dmul (FP.i2d ai) y349) (FP.dmul (FP.i2d bi) x349)) dp)), (.double FP.dconst0)]) _
      refine XS.dmulS X349.here hx rfl (hb hby at_687) rfl z7 rfl ?_
      show own_S p e below T349 (mkF m 688 _ [(.double (FP.dmul FP.dconst0 (FP.dadd (FP.dadd (FP.dmul (FP.i2d ai) y349) (FP.dmul (FP.i2d bi) x349)) dp)))]) _
      refine XS.dload X349.here hx rfl (hb hby at_688) rfl ?_
      show own_S p e below T349 (mkF m 690 _ [(.double (FP.dadd (FP.dmul (FP.i2d ci) x349) dp)), (.double (FP.dmul FP.dconst0 (FP.dadd (FP.dadd (FP.dmul (FP.i2d ai) y349) (FP.dmul (FP.i2d bi) x349)) dp)))]) _
      refine XS.daddS X349.here hx rfl (hb hby at_690) rfl z8 rfl ?_
      show own_S p e below T349 (mkF m 691 _ [(.double (FP.dadd (FP.dmul FP.dconst0 (FP.dadd (FP.dadd (FP.dmul (FP.i2d ai) y349) (FP.dmul (FP.i2d bi) x349)) dp)) (FP.dadd (FP.dmul (FP.i2d ci) x349) dp)))]) _
      refine XS.iloadN X349.here hx rfl (hb hby at_691) rfl ?_
      show own_S p e below T349 (mkF m 692 _ [(.int j1), (.double (FP.dadd (FP.dmul FP.dconst0 (FP.dadd (FP.dadd (FP.dmul (FP.i2d ai) y349) (FP.dmul (FP.i2d bi) x349)) dp)) (FP.dadd (FP.dmul (FP.i2d ci) x349) dp)))]) _
      refine XS.i2dS X349.here hx rfl (hb hby at_692) rfl rfl ?_
      show own_S p e below T349 (mkF m 693 _ [(.double (FP.i2d j1)), (.double (FP.dadd (FP.dmul FP.dconst0 (FP.dadd (FP.dadd (FP.dmul (FP.i2d ai) y349) (FP.dmul (FP.i2d bi) x349)) dp)) (FP.dadd (FP.dmul (FP.i2d ci) x349) dp)))]) _
      refine XS.dcmpS X349.here hx rfl (hb hby at_693) rfl rfl ?_
      show own_S p e below T349 (mkF m 694 _ [(.int (cmpValue (FP.dcmp (FP.dadd (FP.dmul FP.dconst0 (FP.dadd (FP.dadd (FP.dmul (FP.i2d ai) y349) (FP.dmul (FP.i2d bi) x349)) dp)) (FP.dadd (FP.dmul (FP.i2d ci) x349) dp)) (FP.i2d j1)) .l))]) _
      exact kt
    have K367 : own_K p e below G0 T349 (FZ 719 [.val (.ref r349), .val (.double y349), .second, .val (.double x349), .second, .val (.double 0), .second, .val (.double dp), .second, .val (.double (FP.dadd (FP.dadd (FP.dmul (FP.i2d ai) y349) (FP.dmul (FP.i2d bi) x349)) dp)), .second, .val (.double (FP.dadd (FP.dmul (FP.i2d ci) x349) dp)), .second, .val (.double FP.dconst0), .second, .val (.int (1 : Int32)), .val (.int (1 : Int32))] [(.int (1 : Int32))]) := by
      intro t kt
      refine K366 t ?_
      refine XS.ifNo X349.here hx rfl (hb hby at_694) rfl ((if0 _ _).trans (teq (by rw [z10]; rfl)).2) ?_
      show own_S p e below T349 (mkF m 697 _ []) _
      refine XS.iconst X349.here hx rfl (hb hby at_697) ?_
      show own_S p e below T349 (mkF m 698 _ [(.int (1 : Int32))]) _
      refine XS.goto X349.here hx rfl (pc0 := 698) (pc' := 702) rfl (hb hby at_698) (by decide) (by decide) ?_
      show own_S p e below T349 (mkF m 702 _ [(.int (1 : Int32))]) _
      refine XS.istore X349.here hx rfl (hb hby at_702) rfl (l' := (FZ 0 [.val (.ref r349), .val (.double y349), .second, .val (.double x349), .second, .val (.double 0), .second, .val (.double dp), .second, .val (.double (FP.dadd (FP.dadd (FP.dmul (FP.i2d ai) y349) (FP.dmul (FP.i2d bi) x349)) dp)), .second, .val (.double (FP.dadd (FP.dmul (FP.i2d ci) x349) dp)), .second, .val (.double FP.dconst0), .second, .val (.int (1 : Int32)), .val (.int (1 : Int32))] []).locals) rfl ?_
      show own_S p e below T349 (mkF m 704 _ []) _
      refine XS.iload X349.here hx rfl (hb hby at_704) rfl ?_
      show own_S p e below T349 (mkF m 706 _ [(.int (1 : Int32))]) _
      refine XS.ifNo X349.here hx rfl (hb hby at_706) rfl ((if0 _ _).trans (feq (by decide)).1) ?_
      show own_S p e below T349 (mkF m 709 _ []) _
      refine XS.iload X349.here hx rfl (hb hby at_709) rfl ?_
      show own_S p e below T349 (mkF m 711 _ [(.int (1 : Int32))]) _
      refine XS.ifNo X349.here hx rfl (hb hby at_711) rfl ((if0 _ _).trans (feq (by decide)).1) ?_
      show own_S p e below T349 (mkF m 714 _ []) _
      refine XS.iconst X349.here hx rfl (hb hby at_714) ?_
      show own_S p e below T349 (mkF m 715 _ [(.int (1 : Int32))]) _
      refine XS.goto X349.here hx rfl (pc0 := 715) (pc' := 719) rfl (hb hby at_715) (by decide) (by decide) ?_
      show own_S p e below T349 (mkF m 719 _ [(.int (1 : Int32))]) _
      exact kt
    obtain ⟨fs, hr, hrun, hended, hW, hsame⟩ := X349.leave (v := some (.int (1 : Int32))) (fun h => by rw [Bd.returns] at h; cases h)
    refine ⟨_, _, ?_, hrun, hended, _, _, rfl, ?_, ⟨_, rfl⟩, hW, hsame.mono (by decide) (by decide)⟩
    · rw [← hG0]
      refine K367 _ ?_
      exact retN X349 hx (t := .boolean) Bd.returns (by simp) (hb hby at_719) hr
    · show Q0 Z j0 j1 j2 cf sh ex h0 n0 _ T349.heap _
      exact ⟨rfl, N349⟩
  ·
    have K368 : own_K p e below G0 T321 (FZ 528 [.unset, .unset, .unset, .unset, .unset, .unset, .unset, .unset, .unset, .unset, .unset, .unset, .unset, .unset, .unset, .unset, .unset] [(.double (FP.i2d mi)), (.int (0 : Int32)), (.int eb), (.ref b313)]) := by
      intro t kt
      refine K322 t ?_
      refine XS.ifNo X321.here hx rfl (hb hby at_518) rfl ((if0 _ _).trans (feq hc323).1) ?_
      show own_S p e below T321 (mkF m 521 _ []) _
      refine XS.aload X321.here hx rfl (hb hby at_521) rfl rfl ?_
      show own_S p e below T321 (mkF m 523 _ [(.ref b313)]) _
      refine XS.iload X321.here hx rfl (hb hby at_523) rfl ?_
      show own_S p e below T321 (mkF m 525 _ [(.int eb), (.ref b313)]) _
      refine XS.iconst X321.here hx rfl (hb hby at_525) ?_
      show own_S p e below T321 (mkF m 526 _ [(.int (0 : Int32)), (.int eb), (.ref b313)]) _
      refine XS.dload X321.here hx rfl (hb hby at_526) rfl ?_
      show own_S p e below T321 (mkF m 528 _ [(.double (FP.i2d mi)), (.int (0 : Int32)), (.int eb), (.ref b313)]) _
      exact kt
    have FAx369 : own_Fac Z T321.heap b313 rb315 ml315 ln315 pe315 pu315 pc315 kr315 km315 kl315 ke315 ku315 kc315 (3 : Int32) (1 : Int32) (0 : Int64) (own_l3 (fun _ => .null)) (own_l3 (fun _ => .null)) (own_l3 (fun _ => (.int (0 : Int32)))) [(.int ea), (.int (0 : Int32)), (.int (0 : Int32))] [(.ref ra), .null, .null] [(.ref ca), .null, .null] := ⟨fc321_0, fc321_1, fc321_2, fc321_3, fc321_4, fc321_5, fc321_6, fc321_7, fc321_8, fc321_9, fc321_10, fc321_11, fc321_12, fc321_13, fc321_14, fc321_15⟩
    have f370 := (f318.keep KV321)
    have f371 := (f319.keep KV321)
    have f372 := (((f311.ext E313).keep KV315).keep KV321)
    have f373 := (((f312.ext E313).keep KV315).keep KV321)
    have f374 := (((VL308.ext E313).keep KV315 (fun q => ne_b299_b313 (List.mem_singleton.mp q))).keep KV321 (by simp only [List.mem_cons, List.not_mem_nil, or_false, not_or]; exact ⟨ne_b299_b313, ne_b299_pe315, ne_b299_pu315, ne_b299_pc315⟩))
    obtain ⟨cq375, kq375, q375a, q375b, q375c⟩ := isOf hZ (rfl : T321.heap = _) fc321_0
    obtain ⟨v376, _, ⟨T376, L376, k376, n376⟩, -, X376, ⟨Lc376, hQ376, l376, y376, z376⟩, st376⟩ := X321.virtualBack hx (y := (⟨"com/example/sondage/sondage/inference/Factorization", "reduced", "(IID)V"⟩ : MethodName)) (z := (⟨"com/example/sondage/sondage/inference/Factorization", "reduced", "(IID)V"⟩ : MethodName)) hown (mvT hZ (hw _ (List.mem_of_getElem? (i := 46) rfl))) (mvT hZ (hw _ (List.mem_of_getElem? (i := 47) rfl))) (notFace_of_selects (args := #[]) (mvT hZ (hw _ (List.mem_of_getElem? (i := 49) rfl)))) (mvT hZ (hw _ (List.mem_of_getElem? (i := 49) rfl))) (mvT hZ (hw _ (List.mem_of_getElem? (i := 48) rfl))) (by decide) (backOf (W := 0) (rm5_1 l Z aa hw [] (b313) (eb) ((0 : Int32)) ((FP.i2d mi)) rb315 ml315 ln315 pe315 pu315 pc315 kr315 km315 kl315 ke315 ku315 kc315 (0 : Int64) (1 : Int32) (fun _ => .null) (fun _ => .null) (fun _ => (.int (0 : Int32))) [(.int ea), (.int (0 : Int32)), (.int (0 : Int32))] [(.ref ra), .null, .null] [(.ref ca), .null, .null] T321.heap n0 Z321 SP315 FAx369 hReb rfl rfl) hZ (hw _ (List.mem_of_getElem? (i := 50) rfl)) (hw _ (List.mem_of_getElem? (i := 7) rfl)) (by decide) (by decide)) q375a q375c (g := (FZ 528 [.unset, .unset, .unset, .unset, .unset, .unset, .unset, .unset, .unset, .unset, .unset, .unset, .unset, .unset, .unset, .unset, .unset] [(.double (FP.i2d mi)), (.int (0 : Int32)), (.int eb), (.ref b313)])) rfl (by rw [hml]; rfl) (Steps.refl _) (argsL := [(.int eb), (.int (0 : Int32)), (.double (FP.i2d mi))]) (rest := []) (lenOf pd_PIIDQV rfl) rfl (by show 2 * 0 + _ ≤ _; exact Nat.le_of_eq rfl) (hb hby at_528) (fun _ _ => ⟨rfl, (rfl : T321.heap = _), (by decide : 20 + 2 ≤ _), (by decide : 68 + 8 ≤ _)⟩)
    dsimp only [Pt.U, Pt.locs, Pt.cells, Pt.slots] at X376 l376 y376 z376 st376 hQ376
    subst l376 y376 z376
    obtain ⟨rfl, N376q, KV376, qa376, qb376, ka376, kb376, FA376, W1376, W2376, S1376, S2376, G1376, G2376, ne_qa376_qb376⟩ := hQ376
    have N376 := Fr.app N321 N376q
    have K376 : own_K p e below G0 T376 (FZ 531 [.unset, .unset, .unset, .unset, .unset, .unset, .unset, .unset, .unset, .unset, .unset, .unset, .unset, .unset, .unset, .unset, .unset] []) := fun t kt => K368 t (st376.trans kt)
    have Z376 : n0 ≤ T376.heap.size := Nat.le_trans Z321 KV376.1
    have ne_ra_qa376 : ra ≠ qa376 := Nat.ne_of_lt (Nat.lt_of_lt_of_le (f370).lt S1376)
    have ne_ca_qa376 : ca ≠ qa376 := Nat.ne_of_lt (Nat.lt_of_lt_of_le (f371).lt S1376)
    have ne_rc_qa376 : rc ≠ qa376 := Nat.ne_of_lt (Nat.lt_of_lt_of_le (f372).lt S1376)
    have ne_cc_qa376 : cc ≠ qa376 := Nat.ne_of_lt (Nat.lt_of_lt_of_le (f373).lt S1376)
    have ne_b299_qa376 : b299 ≠ qa376 := Nat.ne_of_lt (Nat.lt_of_lt_of_le (f374).lt S1376)
    have ne_b313_qa376 : b313 ≠ qa376 := Nat.ne_of_lt (Nat.lt_of_lt_of_le (fc321_0).lt S1376)
    have ne_rb315_qa376 : rb315 ≠ qa376 := Nat.ne_of_lt (Nat.lt_of_lt_of_le (fc321_10).lt S1376)
    have ne_ml315_qa376 : ml315 ≠ qa376 := Nat.ne_of_lt (Nat.lt_of_lt_of_le (fc321_11).lt S1376)
    have ne_ln315_qa376 : ln315 ≠ qa376 := Nat.ne_of_lt (Nat.lt_of_lt_of_le (fc321_12).lt S1376)
    have ne_pe315_qa376 : pe315 ≠ qa376 := Nat.ne_of_lt (Nat.lt_of_lt_of_le (fc321_13).lt S1376)
    have ne_pu315_qa376 : pu315 ≠ qa376 := Nat.ne_of_lt (Nat.lt_of_lt_of_le (fc321_14).lt S1376)
    have ne_pc315_qa376 : pc315 ≠ qa376 := Nat.ne_of_lt (Nat.lt_of_lt_of_le (fc321_15).lt S1376)
    have ne_ra_qb376 : ra ≠ qb376 := Nat.ne_of_lt (Nat.lt_of_lt_of_le (f370).lt S2376)
    have ne_ca_qb376 : ca ≠ qb376 := Nat.ne_of_lt (Nat.lt_of_lt_of_le (f371).lt S2376)
    have ne_rc_qb376 : rc ≠ qb376 := Nat.ne_of_lt (Nat.lt_of_lt_of_le (f372).lt S2376)
    have ne_cc_qb376 : cc ≠ qb376 := Nat.ne_of_lt (Nat.lt_of_lt_of_le (f373).lt S2376)
    have ne_b299_qb376 : b299 ≠ qb376 := Nat.ne_of_lt (Nat.lt_of_lt_of_le (f374).lt S2376)
    have ne_b313_qb376 : b313 ≠ qb376 := Nat.ne_of_lt (Nat.lt_of_lt_of_le (fc321_0).lt S2376)
    have ne_rb315_qb376 : rb315 ≠ qb376 := Nat.ne_of_lt (Nat.lt_of_lt_of_le (fc321_10).lt S2376)
    have ne_ml315_qb376 : ml315 ≠ qb376 := Nat.ne_of_lt (Nat.lt_of_lt_of_le (fc321_11).lt S2376)
    have ne_ln315_qb376 : ln315 ≠ qb376 := Nat.ne_of_lt (Nat.lt_of_lt_of_le (fc321_12).lt S2376)
    have ne_pe315_qb376 : pe315 ≠ qb376 := Nat.ne_of_lt (Nat.lt_of_lt_of_le (fc321_13).lt S2376)
    have ne_pu315_qb376 : pu315 ≠ qb376 := Nat.ne_of_lt (Nat.lt_of_lt_of_le (fc321_14).lt S2376)
    have ne_pc315_qb376 : pc315 ≠ qb376 := Nat.ne_of_lt (Nat.lt_of_lt_of_le (fc321_15).lt S2376)
    obtain ⟨fc376_0, fc376_1, fc376_2, fc376_3, fc376_4, fc376_5, fc376_6, fc376_7, fc376_8, fc376_9, fc376_10, fc376_11, fc376_12, fc376_13, fc376_14, fc376_15⟩ := id FA376
    have K377 : own_K p e below G0 T376 (FZ 539 [.unset, .unset, .unset, .unset, .unset, .unset, .unset, .unset, .unset, .unset, .unset, .unset, .unset, .unset, .unset, .unset, .unset] [(.ref cc), (.ref rc), (.int eb), (.ref b313)]) := by
      intro t kt
      refine K376 t ?_
      refine XS.aload X376.here hx rfl (hb hby at_531) rfl rfl ?_
      show own_S p e below T376 (mkF m 533 _ [(.ref b313)]) _
      refine XS.iload X376.here hx rfl (hb hby at_533) rfl ?_
      show own_S p e below T376 (mkF m 535 _ [(.int eb), (.ref b313)]) _
      refine XS.aload X376.here hx rfl (hb hby at_535) rfl rfl ?_
      show own_S p e below T376 (mkF m 537 _ [(.ref rc), (.int eb), (.ref b313)]) _
      refine XS.aload X376.here hx rfl (hb hby at_537) rfl rfl ?_
      show own_S p e below T376 (mkF m 539 _ [(.ref cc), (.ref rc), (.int eb), (.ref b313)]) _
      exact kt
    have FAx378 : own_Fac Z T376.heap b313 rb315 ml315 ln315 pe315 pu315 pc315 kr315 km315 kl315 ke315 ku315 kc315 (3 : Int32) (1 : Int32) ((0 : Int64) + (1 : Int64)) (own_l3 (own_u eb (.ref qa376) (fun _ => .null))) (own_l3 (own_u eb (.ref qb376) (fun _ => .null))) (own_l3 (own_u eb (.int (1 : Int32)) (fun _ => (.int (0 : Int32))))) [(.int ea), (.int (0 : Int32)), (.int (0 : Int32))] [(.ref ra), .null, .null] [(.ref ca), .null, .null] := ⟨fc376_0, fc376_1, fc376_2, fc376_3, fc376_4, fc376_5, fc376_6, fc376_7, fc376_8, fc376_9, fc376_10, fc376_11, fc376_12, fc376_13, fc376_14, fc376_15⟩
    have f379 := (f372.keep KV376)
    have f380 := (f373.keep KV376)
    obtain ⟨cq381, kq381, q381a, q381b, q381c⟩ := isOf hZ (rfl : T376.heap = _) fc376_0
    obtain ⟨v382, _, ⟨T382, L382, k382, n382⟩, -, X382, ⟨Lc382, hQ382, l382, y382, z382⟩, st382⟩ := X376.virtualBack hx (y := (⟨"com/example/sondage/sondage/inference/Factorization", "pivot", "(I[I[D)I"⟩ : MethodName)) (z := (⟨"com/example/sondage/sondage/inference/Factorization", "pivot", "(I[I[D)I"⟩ : MethodName)) hown (mvT hZ (hw _ (List.mem_of_getElem? (i := 38) rfl))) (mvT hZ (hw _ (List.mem_of_getElem? (i := 39) rfl))) (notFace_of_selects (args := #[]) (mvT hZ (hw _ (List.mem_of_getElem? (i := 41) rfl)))) (mvT hZ (hw _ (List.mem_of_getElem? (i := 41) rfl))) (mvT hZ (hw _ (List.mem_of_getElem? (i := 40) rfl))) (by decide) (backOf (W := 0) (rm4_1 l Z aa hw [] (b313) (eb) (rc) (cc) rb315 ml315 ln315 pe315 pu315 pc315 kr315 km315 kl315 ke315 ku315 kc315 ((0 : Int64) + (1 : Int64)) (own_l3 (own_u eb (.ref qa376) (fun _ => .null))) (own_l3 (own_u eb (.ref qb376) (fun _ => .null))) (own_l3 (own_u eb (.int (1 : Int32)) (fun _ => (.int (0 : Int32))))) (.int ea) (.int (0 : Int32)) (.int (0 : Int32)) (.ref ra) .null .null (.ref ca) .null .null T376.heap n0 Z376 SP315 FAx378 f379 f380) hZ (hw _ (List.mem_of_getElem? (i := 42) rfl)) (hw _ (List.mem_of_getElem? (i := 7) rfl)) (by decide) (by decide)) q381a q381c (g := (FZ 539 [.unset, .unset, .unset, .unset, .unset, .unset, .unset, .unset, .unset, .unset, .unset, .unset, .unset, .unset, .unset, .unset, .unset] [(.ref cc), (.ref rc), (.int eb), (.ref b313)])) rfl (by rw [hml]; rfl) (Steps.refl _) (argsL := [(.int eb), (.ref rc), (.ref cc)]) (rest := []) (lenOf pd_PI_I_DQI rfl) rfl (by show 2 * 0 + _ ≤ _; exact Nat.le_of_eq rfl) (hb hby at_539) (fun _ _ => ⟨rfl, (rfl : T376.heap = _), (by decide : 22 + 0 ≤ _), (by decide : 76 + 0 ≤ _)⟩)
    dsimp only [Pt.U, Pt.locs, Pt.cells, Pt.slots] at X382 l382 y382 z382 st382 hQ382
    subst l382 y382 z382
    obtain ⟨rfl, N382q, KV382, FA382⟩ := hQ382
    have N382 := Fr.app N376 N382q
    have K382 : own_K p e below G0 T382 (FZ 542 [.unset, .unset, .unset, .unset, .unset, .unset, .unset, .unset, .unset, .unset, .unset, .unset, .unset, .unset, .unset, .unset, .unset] [(.int (1 : Int32))]) := fun t kt => K377 t (st382.trans kt)
    have Z382 : n0 ≤ T382.heap.size := Nat.le_trans Z376 KV382.1
    obtain ⟨fc382_0, fc382_1, fc382_2, fc382_3, fc382_4, fc382_5, fc382_6, fc382_7, fc382_8, fc382_9, fc382_10, fc382_11, fc382_12, fc382_13, fc382_14, fc382_15⟩ := id FA382
    have K383 : own_K p e below G0 T382 (FZ 551 [.unset, .unset, .unset, .unset, .unset, .unset, .unset, .unset, .unset, .unset, .unset, .unset, .unset, .unset, .unset, .unset, .unset] [(.double (FP.i2d m2i)), (.int (0 : Int32)), (.int ec), (.ref b313)]) := by
      intro t kt
      refine K382 t ?_
      refine XS.pop X382.here hx rfl (hb hby at_542) rfl rfl ?_
      show own_S p e below T382 (mkF m 543 _ []) _
      refine XS.aload X382.here hx rfl (hb hby at_543) rfl rfl ?_
      show own_S p e below T382 (mkF m 545 _ [(.ref b313)]) _
      refine XS.iload X382.here hx rfl (hb hby at_545) rfl ?_
      show own_S p e below T382 (mkF m 547 _ [(.int ec), (.ref b313)]) _
      refine XS.iconst X382.here hx rfl (hb hby at_547) ?_
      show own_S p e below T382 (mkF m 548 _ [(.int (0 : Int32)), (.int ec), (.ref b313)]) _
      refine XS.iload X382.here hx rfl (hb hby at_548) rfl ?_
      show own_S p e below T382 (mkF m 550 _ [(.int m2i), (.int (0 : Int32)), (.int ec), (.ref b313)]) _
      refine XS.i2dS X382.here hx rfl (hb hby at_550) rfl rfl ?_
      show own_S p e below T382 (mkF m 551 _ [(.double (FP.i2d m2i)), (.int (0 : Int32)), (.int ec), (.ref b313)]) _
      exact kt
    have FAx384 : own_Fac Z T382.heap b313 rb315 ml315 ln315 pe315 pu315 pc315 kr315 km315 kl315 ke315 ku315 kc315 (3 : Int32) (2 : Int32) ((0 : Int64) + (1 : Int64)) (own_l3 (own_u eb (.ref qa376) (fun _ => .null))) (own_l3 (own_u eb (.ref qb376) (fun _ => .null))) (own_l3 (own_u eb (.int (1 : Int32)) (fun _ => (.int (0 : Int32))))) [(.int ea), (.int eb), (.int (0 : Int32))] [(.ref ra), (.ref rc), .null] [(.ref ca), (.ref cc), .null] := ⟨fc382_0, fc382_1, fc382_2, fc382_3, fc382_4, fc382_5, fc382_6, fc382_7, fc382_8, fc382_9, fc382_10, fc382_11, fc382_12, fc382_13, fc382_14, fc382_15⟩
    have f385 := ((f370.keep KV376).keep KV382)
    have f386 := ((f371.keep KV376).keep KV382)
    have f387 := (f379.keep KV382)
    have f388 := (f380.keep KV382)
    have f389 := ((f374.keep KV376 (by simp only [List.mem_cons, List.not_mem_nil, or_false, not_or]; exact ⟨ne_b299_b313, ne_b299_rb315, ne_b299_ml315, ne_b299_ln315⟩)).keep KV382 (by simp only [List.mem_cons, List.not_mem_nil, or_false, not_or]; exact ⟨ne_b299_b313, ne_b299_pe315, ne_b299_pu315, ne_b299_pc315⟩))
    have f390 := (W1376.keep KV382 (by simp only [List.mem_cons, List.not_mem_nil, or_false, not_or]; exact ⟨(Ne.symm ne_b313_qa376), (Ne.symm ne_pe315_qa376), (Ne.symm ne_pu315_qa376), (Ne.symm ne_pc315_qa376)⟩))
    have f391 := (W2376.keep KV382 (by simp only [List.mem_cons, List.not_mem_nil, or_false, not_or]; exact ⟨(Ne.symm ne_b313_qb376), (Ne.symm ne_pe315_qb376), (Ne.symm ne_pu315_qb376), (Ne.symm ne_pc315_qb376)⟩))
    obtain ⟨cq392, kq392, q392a, q392b, q392c⟩ := isOf hZ (rfl : T382.heap = _) fc382_0
    obtain ⟨v393, _, ⟨T393, L393, k393, n393⟩, -, X393, ⟨Lc393, hQ393, l393, y393, z393⟩, st393⟩ := X382.virtualBack hx (y := (⟨"com/example/sondage/sondage/inference/Factorization", "reduced", "(IID)V"⟩ : MethodName)) (z := (⟨"com/example/sondage/sondage/inference/Factorization", "reduced", "(IID)V"⟩ : MethodName)) hown (mvT hZ (hw _ (List.mem_of_getElem? (i := 46) rfl))) (mvT hZ (hw _ (List.mem_of_getElem? (i := 47) rfl))) (notFace_of_selects (args := #[]) (mvT hZ (hw _ (List.mem_of_getElem? (i := 49) rfl)))) (mvT hZ (hw _ (List.mem_of_getElem? (i := 49) rfl))) (mvT hZ (hw _ (List.mem_of_getElem? (i := 48) rfl))) (by decide) (backOf (W := 0) (rm5_1 l Z aa hw [] (b313) (ec) ((0 : Int32)) ((FP.i2d m2i)) rb315 ml315 ln315 pe315 pu315 pc315 kr315 km315 kl315 ke315 ku315 kc315 ((0 : Int64) + (1 : Int64)) (2 : Int32) (own_u eb (.ref qa376) (fun _ => .null)) (own_u eb (.ref qb376) (fun _ => .null)) (own_u eb (.int (1 : Int32)) (fun _ => (.int (0 : Int32)))) [(.int ea), (.int eb), (.int (0 : Int32))] [(.ref ra), (.ref rc), .null] [(.ref ca), (.ref cc), .null] T382.heap n0 Z382 SP315 FAx384 hRec ((own_u2 (Ne.symm ne_eb_ec)).trans rfl) ((own_u2 (Ne.symm ne_eb_ec)).trans rfl)) hZ (hw _ (List.mem_of_getElem? (i := 50) rfl)) (hw _ (List.mem_of_getElem? (i := 7) rfl)) (by decide) (by decide)) q392a q392c (g := (FZ 551 [.unset, .unset, .unset, .unset, .unset, .unset, .unset, .unset, .unset, .unset, .unset, .unset, .unset, .unset, .unset, .unset, .unset] [(.double (FP.i2d m2i)), (.int (0 : Int32)), (.int ec), (.ref b313)])) rfl (by rw [hml]; rfl) (Steps.refl _) (argsL := [(.int ec), (.int (0 : Int32)), (.double (FP.i2d m2i))]) (rest := []) (lenOf pd_PIIDQV rfl) rfl (by show 2 * 0 + _ ≤ _; exact Nat.le_of_eq rfl) (hb hby at_551) (fun _ _ => ⟨rfl, (rfl : T382.heap = _), (by decide : 22 + 2 ≤ _), (by decide : 76 + 8 ≤ _)⟩)
    dsimp only [Pt.U, Pt.locs, Pt.cells, Pt.slots] at X393 l393 y393 z393 st393 hQ393
    subst l393 y393 z393
    obtain ⟨rfl, N393q, KV393, qa393, qb393, ka393, kb393, FA393, W1393, W2393, S1393, S2393, G1393, G2393, ne_qa393_qb393⟩ := hQ393
    have N393 := Fr.app N382 N393q
    have K393 : own_K p e below G0 T393 (FZ 554 [.unset, .unset, .unset, .unset, .unset, .unset, .unset, .unset, .unset, .unset, .unset, .unset, .unset, .unset, .unset, .unset, .unset] []) := fun t kt => K383 t (st393.trans kt)
    have Z393 : n0 ≤ T393.heap.size := Nat.le_trans Z382 KV393.1
    have ne_ra_qa393 : ra ≠ qa393 := Nat.ne_of_lt (Nat.lt_of_lt_of_le (f385).lt S1393)
    have ne_ca_qa393 : ca ≠ qa393 := Nat.ne_of_lt (Nat.lt_of_lt_of_le (f386).lt S1393)
    have ne_rc_qa393 : rc ≠ qa393 := Nat.ne_of_lt (Nat.lt_of_lt_of_le (f387).lt S1393)
    have ne_cc_qa393 : cc ≠ qa393 := Nat.ne_of_lt (Nat.lt_of_lt_of_le (f388).lt S1393)
    have ne_b299_qa393 : b299 ≠ qa393 := Nat.ne_of_lt (Nat.lt_of_lt_of_le (f389).lt S1393)
    have ne_b313_qa393 : b313 ≠ qa393 := Nat.ne_of_lt (Nat.lt_of_lt_of_le (fc382_0).lt S1393)
    have ne_rb315_qa393 : rb315 ≠ qa393 := Nat.ne_of_lt (Nat.lt_of_lt_of_le (fc382_10).lt S1393)
    have ne_ml315_qa393 : ml315 ≠ qa393 := Nat.ne_of_lt (Nat.lt_of_lt_of_le (fc382_11).lt S1393)
    have ne_ln315_qa393 : ln315 ≠ qa393 := Nat.ne_of_lt (Nat.lt_of_lt_of_le (fc382_12).lt S1393)
    have ne_pe315_qa393 : pe315 ≠ qa393 := Nat.ne_of_lt (Nat.lt_of_lt_of_le (fc382_13).lt S1393)
    have ne_pu315_qa393 : pu315 ≠ qa393 := Nat.ne_of_lt (Nat.lt_of_lt_of_le (fc382_14).lt S1393)
    have ne_pc315_qa393 : pc315 ≠ qa393 := Nat.ne_of_lt (Nat.lt_of_lt_of_le (fc382_15).lt S1393)
    have ne_qa376_qa393 : qa376 ≠ qa393 := Nat.ne_of_lt (Nat.lt_of_lt_of_le (f390).lt S1393)
    have ne_qb376_qa393 : qb376 ≠ qa393 := Nat.ne_of_lt (Nat.lt_of_lt_of_le (f391).lt S1393)
    have ne_ra_qb393 : ra ≠ qb393 := Nat.ne_of_lt (Nat.lt_of_lt_of_le (f385).lt S2393)
    have ne_ca_qb393 : ca ≠ qb393 := Nat.ne_of_lt (Nat.lt_of_lt_of_le (f386).lt S2393)
    have ne_rc_qb393 : rc ≠ qb393 := Nat.ne_of_lt (Nat.lt_of_lt_of_le (f387).lt S2393)
    have ne_cc_qb393 : cc ≠ qb393 := Nat.ne_of_lt (Nat.lt_of_lt_of_le (f388).lt S2393)
    have ne_b299_qb393 : b299 ≠ qb393 := Nat.ne_of_lt (Nat.lt_of_lt_of_le (f389).lt S2393)
    have ne_b313_qb393 : b313 ≠ qb393 := Nat.ne_of_lt (Nat.lt_of_lt_of_le (fc382_0).lt S2393)
    have ne_rb315_qb393 : rb315 ≠ qb393 := Nat.ne_of_lt (Nat.lt_of_lt_of_le (fc382_10).lt S2393)
    have ne_ml315_qb393 : ml315 ≠ qb393 := Nat.ne_of_lt (Nat.lt_of_lt_of_le (fc382_11).lt S2393)
    have ne_ln315_qb393 : ln315 ≠ qb393 := Nat.ne_of_lt (Nat.lt_of_lt_of_le (fc382_12).lt S2393)
    have ne_pe315_qb393 : pe315 ≠ qb393 := Nat.ne_of_lt (Nat.lt_of_lt_of_le (fc382_13).lt S2393)
    have ne_pu315_qb393 : pu315 ≠ qb393 := Nat.ne_of_lt (Nat.lt_of_lt_of_le (fc382_14).lt S2393)
    have ne_pc315_qb393 : pc315 ≠ qb393 := Nat.ne_of_lt (Nat.lt_of_lt_of_le (fc382_15).lt S2393)
    have ne_qa376_qb393 : qa376 ≠ qb393 := Nat.ne_of_lt (Nat.lt_of_lt_of_le (f390).lt S2393)
    have ne_qb376_qb393 : qb376 ≠ qb393 := Nat.ne_of_lt (Nat.lt_of_lt_of_le (f391).lt S2393)
    obtain ⟨fc393_0, fc393_1, fc393_2, fc393_3, fc393_4, fc393_5, fc393_6, fc393_7, fc393_8, fc393_9, fc393_10, fc393_11, fc393_12, fc393_13, fc393_14, fc393_15⟩ := id FA393
    have K394 : own_K p e below G0 T393 (FZ 562 [.unset, .unset, .unset, .unset, .unset, .unset, .unset, .unset, .unset, .unset, .unset, .unset, .unset, .unset, .unset, .unset, .unset] [(.double (FP.i2d m3i)), (.int (1 : Int32)), (.int ec), (.ref b313)]) := by
      intro t kt
      refine K393 t ?_
      refine XS.aload X393.here hx rfl (hb hby at_554) rfl rfl ?_
      show own_S p e below T393 (mkF m 556 _ [(.ref b313)]) _
      refine XS.iload X393.here hx rfl (hb hby at_556) rfl ?_
      show own_S p e below T393 (mkF m 558 _ [(.int ec), (.ref b313)]) _
      refine XS.iconst X393.here hx rfl (hb hby at_558) ?_
      show own_S p e below T393 (mkF m 559 _ [(.int (1 : Int32)), (.int ec), (.ref b313)]) _
      refine XS.iload X393.here hx rfl (hb hby at_559) rfl ?_
      show own_S p e below T393 (mkF m 561 _ [(.int m3i), (.int (1 : Int32)), (.int ec), (.ref b313)]) _
      refine XS.i2dS X393.here hx rfl (hb hby at_561) rfl rfl ?_
      show own_S p e below T393 (mkF m 562 _ [(.double (FP.i2d m3i)), (.int (1 : Int32)), (.int ec), (.ref b313)]) _
      exact kt
    have FAx395 : own_Fac Z T393.heap b313 rb315 ml315 ln315 pe315 pu315 pc315 kr315 km315 kl315 ke315 ku315 kc315 (3 : Int32) (2 : Int32) (((0 : Int64) + (1 : Int64)) + (1 : Int64)) (own_l3 (own_u ec (.ref qa393) (own_u eb (.ref qa376) (fun _ => .null)))) (own_l3 (own_u ec (.ref qb393) (own_u eb (.ref qb376) (fun _ => .null)))) (own_l3 (own_u ec (.int (1 : Int32)) (own_u eb (.int (1 : Int32)) (fun _ => (.int (0 : Int32)))))) [(.int ea), (.int eb), (.int (0 : Int32))] [(.ref ra), (.ref rc), .null] [(.ref ca), (.ref cc), .null] := ⟨fc393_0, fc393_1, fc393_2, fc393_3, fc393_4, fc393_5, fc393_6, fc393_7, fc393_8, fc393_9, fc393_10, fc393_11, fc393_12, fc393_13, fc393_14, fc393_15⟩
    obtain ⟨cq396, kq396, q396a, q396b, q396c⟩ := isOf hZ (rfl : T393.heap = _) fc393_0
    obtain ⟨v397, _, ⟨T397, L397, k397, n397⟩, -, X397, ⟨Lc397, hQ397, l397, y397, z397⟩, st397⟩ := X393.virtualBack hx (y := (⟨"com/example/sondage/sondage/inference/Factorization", "reduced", "(IID)V"⟩ : MethodName)) (z := (⟨"com/example/sondage/sondage/inference/Factorization", "reduced", "(IID)V"⟩ : MethodName)) hown (mvT hZ (hw _ (List.mem_of_getElem? (i := 46) rfl))) (mvT hZ (hw _ (List.mem_of_getElem? (i := 47) rfl))) (notFace_of_selects (args := #[]) (mvT hZ (hw _ (List.mem_of_getElem? (i := 49) rfl)))) (mvT hZ (hw _ (List.mem_of_getElem? (i := 49) rfl))) (mvT hZ (hw _ (List.mem_of_getElem? (i := 48) rfl))) (by decide) (backOf (W := 0) (rm5_2 l Z aa hw [] (b313) (ec) ((1 : Int32)) ((FP.i2d m3i)) rb315 ml315 ln315 pe315 pu315 pc315 kr315 km315 kl315 ke315 ku315 kc315 (((0 : Int64) + (1 : Int64)) + (1 : Int64)) (2 : Int32) (own_u ec (.ref qa393) (own_u eb (.ref qa376) (fun _ => .null))) (own_u ec (.ref qb393) (own_u eb (.ref qb376) (fun _ => .null))) (own_u ec (.int (1 : Int32)) (own_u eb (.int (1 : Int32)) (fun _ => (.int (0 : Int32))))) [(.int ea), (.int eb), (.int (0 : Int32))] [(.ref ra), (.ref rc), .null] [(.ref ca), (.ref cc), .null] qa393 qb393 ka393 kb393 (.int (0 : Int32)) (.int (0 : Int32)) (.int (0 : Int32)) (.int (0 : Int32)) (.double (FP.i2d m2i)) (.double 0) (.double 0) (.double 0) T393.heap n0 Z393 SP315 FAx395 hRec own_u1 own_u1 own_u1 W1393 W2393 G1393 G2393 ne_qa393_qb393 ne_b313_qa393 ne_rb315_qa393 ne_ml315_qa393 ne_ln315_qa393 ne_pe315_qa393 ne_pu315_qa393 ne_pc315_qa393 ne_b313_qb393 ne_rb315_qb393 ne_ml315_qb393 ne_ln315_qb393 ne_pe315_qb393 ne_pu315_qb393 ne_pc315_qb393) hZ (hw _ (List.mem_of_getElem? (i := 50) rfl)) (hw _ (List.mem_of_getElem? (i := 7) rfl)) (by decide) (by decide)) q396a q396c (g := (FZ 562 [.unset, .unset, .unset, .unset, .unset, .unset, .unset, .unset, .unset, .unset, .unset, .unset, .unset, .unset, .unset, .unset, .unset] [(.double (FP.i2d m3i)), (.int (1 : Int32)), (.int ec), (.ref b313)])) rfl (by rw [hml]; rfl) (Steps.refl _) (argsL := [(.int ec), (.int (1 : Int32)), (.double (FP.i2d m3i))]) (rest := []) (lenOf pd_PIIDQV rfl) rfl (by show 2 * 0 + _ ≤ _; exact Nat.le_of_eq rfl) (hb hby at_562) (fun _ _ => ⟨rfl, (rfl : T393.heap = _), (by decide : 24 + 0 ≤ _), (by decide : 84 + 0 ≤ _)⟩)
    dsimp only [Pt.U, Pt.locs, Pt.cells, Pt.slots] at X397 l397 y397 z397 st397 hQ397
    subst l397 y397 z397
    obtain ⟨rfl, N397q, KV397, FA397⟩ := hQ397
    have N397 := Fr.app N393 N397q
    have K397 : own_K p e below G0 T397 (FZ 565 [.unset, .unset, .unset, .unset, .unset, .unset, .unset, .unset, .unset, .unset, .unset, .unset, .unset, .unset, .unset, .unset, .unset] []) := fun t kt => K394 t (st397.trans kt)
    have Z397 : n0 ≤ T397.heap.size := Nat.le_trans Z393 KV397.1
    obtain ⟨fc397_0, fc397_1, fc397_2, fc397_3, fc397_4, fc397_5, fc397_6, fc397_7, fc397_8, fc397_9, fc397_10, fc397_11, fc397_12, fc397_13, fc397_14, fc397_15⟩ := id FA397
    have K398 : own_K p e below G0 T397 (FZ 569 [.unset, .unset, .unset, .unset, .unset, .unset, .unset, .unset, .unset, .unset, .unset, .unset, .unset, .unset, .unset, .unset, .unset] [(.ref b299), (.ref b313)]) := by
      intro t kt
      refine K397 t ?_
      refine XS.aload X397.here hx rfl (hb hby at_565) rfl rfl ?_
      show own_S p e below T397 (mkF m 567 _ [(.ref b313)]) _
      refine XS.aload X397.here hx rfl (hb hby at_567) rfl rfl ?_
      show own_S p e below T397 (mkF m 569 _ [(.ref b299), (.ref b313)]) _
      exact kt
    have FAx399 : own_Fac Z T397.heap b313 rb315 ml315 ln315 pe315 pu315 pc315 kr315 km315 kl315 ke315 ku315 kc315 (3 : Int32) (2 : Int32) ((((0 : Int64) + (1 : Int64)) + (1 : Int64)) + (1 : Int64)) (own_l3 (own_u ec (.ref qa393) (own_u eb (.ref qa376) (fun _ => .null)))) (own_l3 (own_u ec (.ref qb393) (own_u eb (.ref qb376) (fun _ => .null)))) (own_l3 (own_u ec (.int (2 : Int32)) (own_u ec (.int (1 : Int32)) (own_u eb (.int (1 : Int32)) (fun _ => (.int (0 : Int32))))))) [(.int ea), (.int eb), (.int (0 : Int32))] [(.ref ra), (.ref rc), .null] [(.ref ca), (.ref cc), .null] := ⟨fc397_0, fc397_1, fc397_2, fc397_3, fc397_4, fc397_5, fc397_6, fc397_7, fc397_8, fc397_9, fc397_10, fc397_11, fc397_12, fc397_13, fc397_14, fc397_15⟩
    have KQ400_0 := Keep.refl hJ []
    have sz400_299 := Nat.le_trans KQ400_0.1 (Nat.le_of_eq g299.symm)
    have KQ400_1 := KQ400_0.ext E299
    have KQ400_2 := KQ400_1.wr W302 (Or.inr sz400_299)
    have KQ400_3 := KQ400_2.wr W305 (Or.inr sz400_299)
    have KQ400_4 := KQ400_3.wr W308 (Or.inr sz400_299)
    have sz400_rb315 := Nat.le_trans KQ400_4.1 sg1
    have sz400_ml315 := Nat.le_trans KQ400_4.1 sg2
    have sz400_ln315 := Nat.le_trans KQ400_4.1 sg3
    have sz400_pe315 := Nat.le_trans KQ400_4.1 sg4
    have sz400_pu315 := Nat.le_trans KQ400_4.1 sg5
    have sz400_pc315 := Nat.le_trans KQ400_4.1 sg6
    have sz400_313 := Nat.le_trans KQ400_4.1 (Nat.le_of_eq g313.symm)
    have KQ400_11 := KQ400_4.ext E313
    have KQ400_12 := KQ400_11.trans KV315 (fun x hx => by simp only [List.mem_cons, List.not_mem_nil, or_false] at hx; rcases hx with rfl <;> first | exact (Or.inr sz400_313))
    have KQ400_13 := KQ400_12.trans KV321 (fun x hx => by simp only [List.mem_cons, List.not_mem_nil, or_false] at hx; rcases hx with rfl | rfl | rfl | rfl <;> first | exact (Or.inr sz400_313) | exact (Or.inr sz400_pe315) | exact (Or.inr sz400_pu315) | exact (Or.inr sz400_pc315))
    have sz400_qa376 := Nat.le_trans KQ400_13.1 S1376
    have sz400_qb376 := Nat.le_trans KQ400_13.1 S2376
    have KQ400_16 := KQ400_13.trans KV376 (fun x hx => by simp only [List.mem_cons, List.not_mem_nil, or_false] at hx; rcases hx with rfl | rfl | rfl | rfl <;> first | exact (Or.inr sz400_313) | exact (Or.inr sz400_rb315) | exact (Or.inr sz400_ml315) | exact (Or.inr sz400_ln315))
    have KQ400_17 := KQ400_16.trans KV382 (fun x hx => by simp only [List.mem_cons, List.not_mem_nil, or_false] at hx; rcases hx with rfl | rfl | rfl | rfl <;> first | exact (Or.inr sz400_313) | exact (Or.inr sz400_pe315) | exact (Or.inr sz400_pu315) | exact (Or.inr sz400_pc315))
    have sz400_qa393 := Nat.le_trans KQ400_17.1 S1393
    have sz400_qb393 := Nat.le_trans KQ400_17.1 S2393
    have KQ400_20 := KQ400_17.trans KV393 (fun x hx => by simp only [List.mem_cons, List.not_mem_nil, or_false] at hx; rcases hx with rfl | rfl | rfl | rfl <;> first | exact (Or.inr sz400_313) | exact (Or.inr sz400_rb315) | exact (Or.inr sz400_ml315) | exact (Or.inr sz400_ln315))
    have KQ400_21 := KQ400_20.trans KV397 (fun x hx => by simp only [List.mem_cons, List.not_mem_nil, or_false] at hx; rcases hx with rfl | rfl | rfl | rfl <;> first | exact (Or.inr sz400_313) | exact (Or.inr sz400_ln315) | exact (Or.inr sz400_qa393) | exact (Or.inr sz400_qb393))
    have RW401 := own_Rows.keep0 RWJ KQ400_21
    have f402 := ((f389.keep KV393 (by simp only [List.mem_cons, List.not_mem_nil, or_false, not_or]; exact ⟨ne_b299_b313, ne_b299_rb315, ne_b299_ml315, ne_b299_ln315⟩)).keep KV397 (by simp only [List.mem_cons, List.not_mem_nil, or_false, not_or]; exact ⟨ne_b299_b313, ne_b299_ln315, ne_b299_qa393, ne_b299_qb393⟩))
    have f403 := ((f390.keep KV393 (by simp only [List.mem_cons, List.not_mem_nil, or_false, not_or]; exact ⟨(Ne.symm ne_b313_qa376), (Ne.symm ne_rb315_qa376), (Ne.symm ne_ml315_qa376), (Ne.symm ne_ln315_qa376)⟩)).keep KV397 (by simp only [List.mem_cons, List.not_mem_nil, or_false, not_or]; exact ⟨(Ne.symm ne_b313_qa376), (Ne.symm ne_ln315_qa376), ne_qa376_qa393, ne_qa376_qb393⟩))
    have f404 := ((f391.keep KV393 (by simp only [List.mem_cons, List.not_mem_nil, or_false, not_or]; exact ⟨(Ne.symm ne_b313_qb376), (Ne.symm ne_rb315_qb376), (Ne.symm ne_ml315_qb376), (Ne.symm ne_ln315_qb376)⟩)).keep KV397 (by simp only [List.mem_cons, List.not_mem_nil, or_false, not_or]; exact ⟨(Ne.symm ne_b313_qb376), (Ne.symm ne_ln315_qb376), ne_qb376_qa393, ne_qb376_qb393⟩))
    obtain ⟨cq405, kq405, q405a, q405b, q405c⟩ := isOf hZ (rfl : T397.heap = _) fc397_0
    obtain ⟨v406, _, ⟨T406, L406, k406, n406⟩, -, X406, ⟨Lc406, hQ406, l406, y406, z406⟩, st406⟩ := X397.virtualBack hx (y := (⟨"com/example/sondage/sondage/inference/Factorization", "solve", "([D)[D"⟩ : MethodName)) (z := (⟨"com/example/sondage/sondage/inference/Factorization", "solve", "([D)[D"⟩ : MethodName)) hown (mvT hZ (hw _ (List.mem_of_getElem? (i := 53) rfl))) (mvT hZ (hw _ (List.mem_of_getElem? (i := 54) rfl))) (notFace_of_selects (args := #[]) (mvT hZ (hw _ (List.mem_of_getElem? (i := 56) rfl)))) (mvT hZ (hw _ (List.mem_of_getElem? (i := 56) rfl))) (mvT hZ (hw _ (List.mem_of_getElem? (i := 55) rfl))) (by decide) (backOf (W := 0) (rm6_1 l Z aa hw [] (b313) (b299) wb rb315 ml315 ln315 pe315 pu315 pc315 ra ca rc cc kr315 km315 kl315 ke315 ku315 kc315 k299 ((((0 : Int64) + (1 : Int64)) + (1 : Int64)) + (1 : Int64)) (own_u ec (.ref qa393) (own_u eb (.ref qa376) (fun _ => .null))) (own_u ec (.ref qb393) (own_u eb (.ref qb376) (fun _ => .null))) (own_u ec (.int (2 : Int32)) (own_u ec (.int (1 : Int32)) (own_u eb (.int (1 : Int32)) (fun _ => (.int (0 : Int32)))))) (own_u ec (.double (FP.i2d j2)) (own_u eb (.double (FP.i2d j1)) (own_u ea (.double (FP.i2d j0)) (fun _ => (.double 0))))) (.int (0 : Int32)) .null .null ea eb g0 g1 gf (FP.i2d j0) (FP.i2d j1) (FP.i2d ai) (FP.i2d bi) (FP.i2d ci) (FP.i2d di) j0.toInt j1.toInt mi.toInt ai.toInt Aq bi.toInt ci.toInt Cq di.toInt qa376 qb376 ka376 kb376 (FP.i2d mi) T397.heap n0 Z397 FAx399 f402 ((own_u2 ne_ea_ec).trans ((own_u2 ne_ea_eb).trans own_u1)) ((own_u2 ne_eb_ec).trans own_u1) hRea hReb hRg0 hRg1 hRgf ne_g0_g1 ne_g0_gf ne_g1_gf ((own_u2 ne_ea_ec).trans ((own_u2 ne_ea_ec).trans ((own_u2 ne_ea_eb).trans rfl))) (own_V_i2d j0) (own_V_i2d j1) (own_V_i2d ai) (own_V_i2d bi) (own_V_i2d ci) (own_V_i2d di) hAq hCq bAq bCq b_bi b_mi (own_I32 j0) (own_I32 j1) RW401 ((own_u2 ne_eb_ec).trans ((own_u2 ne_eb_ec).trans own_u1)) ((own_u2 ne_eb_ec).trans own_u1) ((own_u2 ne_eb_ec).trans own_u1) f403 f404 (own_V_i2d mi)) hZ (hw _ (List.mem_of_getElem? (i := 57) rfl)) (hw _ (List.mem_of_getElem? (i := 7) rfl)) (by decide) (by decide)) q405a q405c (g := (FZ 569 [.unset, .unset, .unset, .unset, .unset, .unset, .unset, .unset, .unset, .unset, .unset, .unset, .unset, .unset, .unset, .unset, .unset] [(.ref b299), (.ref b313)])) rfl (by rw [hml]; rfl) (Steps.refl _) (argsL := [(.ref b299)]) (rest := []) (lenOf pd_P_DQ_D rfl) rfl (by show 2 * 0 + _ ≤ _; exact Nat.le_of_eq rfl) (hb hby at_569) (fun _ _ => ⟨rfl, (rfl : T397.heap = _), (by decide : 24 + 2 ≤ _), (by decide : 84 + 5 ≤ _)⟩)
    dsimp only [Pt.U, Pt.locs, Pt.cells, Pt.slots] at X406 l406 y406 z406 st406 hQ406
    subst l406 y406 z406
    obtain ⟨r406, kx406, y406, x406, rfl, N406q, KV406, VX406, q1406, q0406⟩ := hQ406
    have N406 := Fr.app N397 N406q
    have K406 : own_K p e below G0 T406 (FZ 572 [.unset, .unset, .unset, .unset, .unset, .unset, .unset, .unset, .unset, .unset, .unset, .unset, .unset, .unset, .unset, .unset, .unset] [(.ref r406)]) := fun t kt => K398 t (st406.trans kt)
    have Z406 : n0 ≤ T406.heap.size := Nat.le_trans Z397 KV406.1
    have K407 : own_K p e below G0 T406 (FZ 576 [.val (.ref r406), .unset, .unset, .unset, .unset, .unset, .unset, .unset, .unset, .unset, .unset, .unset, .unset, .unset, .unset, .unset, .unset] [(.ref r406)]) := by
      intro t kt
      refine K406 t ?_
      refine XS.astore X406.here hx rfl (hb hby at_572) rfl rfl (l' := (FZ 0 [.val (.ref r406), .unset, .unset, .unset, .unset, .unset, .unset, .unset, .unset, .unset, .unset, .unset, .unset, .unset, .unset, .unset, .unset] []).locals) rfl ?_
      show own_S p e below T406 (mkF m 574 _ []) _
      refine XS.aload X406.here hx rfl (hb hby at_574) rfl rfl ?_
      show own_S p e below T406 (mkF m 576 _ [(.ref r406)]) _
      exact kt
    obtain ⟨cl408, Ar408, qq408, S408, M408, H408, GG408⟩ := id VX406
    have K409 : own_K p e below G0 T406 (FZ 587 [.val (.ref r406), .unset, .unset, .unset, .unset, .unset, .unset, .unset, .unset, .unset, .unset, .unset, .unset, .unset, .unset, .unset, .unset] [(.int g0), (.ref r406)]) := by
      intro t kt
      refine K407 t ?_
      refine X406.arraylength hx (by rw [(rfl : T406.heap = _)]; exact (Ar408).1) (State.isArrayOf_alike hZ.alike (Ar408).2.1) (g := (FZ 576 [.val (.ref r406), .unset, .unset, .unset, .unset, .unset, .unset, .unset, .unset, .unset, .unset, .unset, .unset, .unset, .unset, .unset, .unset] [(.ref r406)])) rfl rfl (hb hby at_576) _ ?_
      rw [len_of S408 M408]
      show own_S p e below T406 (FZ 577 [.val (.ref r406), .unset, .unset, .unset, .unset, .unset, .unset, .unset, .unset, .unset, .unset, .unset, .unset, .unset, .unset, .unset, .unset] [(.int (3 : Int32))]) _
      refine XS.iconst X406.here hx rfl (hb hby at_577) ?_
      show own_S p e below T406 (mkF m 578 _ [(.int (3 : Int32)), (.int (3 : Int32))]) _
      refine XS.icmpYes X406.here hx rfl (pc0 := 578) (pc' := 583) rfl (hb hby at_578) rfl (teq (by decide)).1 (by decide) (by decide) ?_
      show own_S p e below T406 (mkF m 583 _ []) _
      refine XS.aload X406.here hx rfl (hb hby at_583) rfl rfl ?_
      show own_S p e below T406 (mkF m 585 _ [(.ref r406)]) _
      refine XS.iload X406.here hx rfl (hb hby at_585) rfl ?_
      show own_S p e below T406 (mkF m 587 _ [(.int g0), (.ref r406)]) _
      exact kt
    obtain ⟨cl410, Ar410, qq410, S410, M410, H410, GG410⟩ := id VX406
    have hin410 := inb_of S410 (own_in3 hRg0)
    have hat410 : cl410.slots[(g0).toNatClampNeg]? = some (.double y406) := Has.at H410 hin410 ((own_g3 hRg0).trans own_u1)
    have K411 : own_K p e below G0 T406 (FZ 594 [.val (.ref r406), .val (.double y406), .second, .unset, .unset, .unset, .unset, .unset, .unset, .unset, .unset, .unset, .unset, .unset, .unset, .unset, .unset] [(.int g1), (.ref r406)]) := by
      intro t kt
      refine K409 t ?_
      refine X406.daload hx (j := g0) (v := (.double y406)) (by rw [(rfl : T406.heap = _)]; exact (Ar410).1) (State.isArrayOf_alike hZ.alike (Ar410).2.1) (Ar410).2.2 hin410 hat410 (g := (FZ 587 [.val (.ref r406), .unset, .unset, .unset, .unset, .unset, .unset, .unset, .unset, .unset, .unset, .unset, .unset, .unset, .unset, .unset, .unset] [(.int g0), (.ref r406)])) rfl rfl (hb hby at_587) _ ?_
      show own_S p e below T406 (mkF m 588 _ [(.double y406)]) _
      refine XS.dstore X406.here hx rfl (hb hby at_588) rfl (l' := (FZ 0 [.val (.ref r406), .val (.double y406), .second, .unset, .unset, .unset, .unset, .unset, .unset, .unset, .unset, .unset, .unset, .unset, .unset, .unset, .unset] []).locals) rfl ?_
      show own_S p e below T406 (mkF m 590 _ []) _
      refine XS.aload X406.here hx rfl (hb hby at_590) rfl rfl ?_
      show own_S p e below T406 (mkF m 592 _ [(.ref r406)]) _
      refine XS.iload X406.here hx rfl (hb hby at_592) rfl ?_
      show own_S p e below T406 (mkF m 594 _ [(.int g1), (.ref r406)]) _
      exact kt
    obtain ⟨cl412, Ar412, qq412, S412, M412, H412, GG412⟩ := id VX406
    have hin412 := inb_of S412 (own_in3 hRg1)
    have hat412 : cl412.slots[(g1).toNatClampNeg]? = some (.double x406) := Has.at H412 hin412 ((own_g3 hRg1).trans ((own_u2 (Ne.symm ne_g0_g1)).trans own_u1))
    have K413 : own_K p e below G0 T406 (FZ 601 [.val (.ref r406), .val (.double y406), .second, .val (.double x406), .second, .unset, .unset, .unset, .unset, .unset, .unset, .unset, .unset, .unset, .unset, .unset, .unset] [(.int gf), (.ref r406)]) := by
      intro t kt
      refine K411 t ?_
      refine X406.daload hx (j := g1) (v := (.double x406)) (by rw [(rfl : T406.heap = _)]; exact (Ar412).1) (State.isArrayOf_alike hZ.alike (Ar412).2.1) (Ar412).2.2 hin412 hat412 (g := (FZ 594 [.val (.ref r406), .val (.double y406), .second, .unset, .unset, .unset, .unset, .unset, .unset, .unset, .unset, .unset, .unset, .unset, .unset, .unset, .unset] [(.int g1), (.ref r406)])) rfl rfl (hb hby at_594) _ ?_
      show own_S p e below T406 (mkF m 595 _ [(.double x406)]) _
      refine XS.dstore X406.here hx rfl (hb hby at_595) rfl (l' := (FZ 0 [.val (.ref r406), .val (.double y406), .second, .val (.double x406), .second, .unset, .unset, .unset, .unset, .unset, .unset, .unset, .unset, .unset, .unset, .unset, .unset] []).locals) rfl ?_
      show own_S p e below T406 (mkF m 597 _ []) _
      refine XS.aload X406.here hx rfl (hb hby at_597) rfl rfl ?_
      show own_S p e below T406 (mkF m 599 _ [(.ref r406)]) _
      refine XS.iload X406.here hx rfl (hb hby at_599) rfl ?_
      show own_S p e below T406 (mkF m 601 _ [(.int gf), (.ref r406)]) _
      exact kt
    obtain ⟨cl414, Ar414, qq414, S414, M414, H414, GG414⟩ := id VX406
    have hin414 := inb_of S414 (own_in3 hRgf)
    have hat414 : cl414.slots[(gf).toNatClampNeg]? = some (.double 0) := Has.at H414 hin414 ((own_g3 hRgf).trans ((own_u2 (Ne.symm ne_g0_gf)).trans ((own_u2 (Ne.symm ne_g1_gf)).trans rfl)))
    have K415 : own_K p e below G0 T406 (FZ 608 [.val (.ref r406), .val (.double y406), .second, .val (.double x406), .second, .val (.double 0), .second, .unset, .unset, .unset, .unset, .unset, .unset, .unset, .unset, .unset, .unset] [(.int (cmpValue (FP.dcmp 0 FP.dconst0) .l))]) := by
      intro t kt
      refine K413 t ?_
      refine X406.daload hx (j := gf) (v := (.double 0)) (by rw [(rfl : T406.heap = _)]; exact (Ar414).1) (State.isArrayOf_alike hZ.alike (Ar414).2.1) (Ar414).2.2 hin414 hat414 (g := (FZ 601 [.val (.ref r406), .val (.double y406), .second, .val (.double x406), .second, .unset, .unset, .unset, .unset, .unset, .unset, .unset, .unset, .unset, .unset, .unset, .unset] [(.int gf), (.ref r406)])) rfl rfl (hb hby at_601) _ ?_
      show own_S p e below T406 (mkF m 602 _ [(.double 0)]) _
      refine XS.dstore X406.here hx rfl (hb hby at_602) rfl (l' := (FZ 0 [.val (.ref r406), .val (.double y406), .second, .val (.double x406), .second, .val (.double 0), .second, .unset, .unset, .unset, .unset, .unset, .unset, .unset, .unset, .unset, .unset] []).locals) rfl ?_
      show own_S p e below T406 (mkF m 604 _ []) _
      refine XS.dload X406.here hx rfl (hb hby at_604) rfl ?_
      show own_S p e below T406 (mkF m 606 _ [(.double 0)]) _
      refine XS.dconst0 X406.here hx rfl (hb hby at_606) rfl ?_
      show own_S p e below T406 (mkF m 607 _ [(.double FP.dconst0), (.double 0)]) _
      refine XS.dcmpS X406.here hx rfl (hb hby at_607) rfl rfl ?_
      show own_S p e below T406 (mkF m 608 _ [(.int (cmpValue (FP.dcmp 0 FP.dconst0) .l))]) _
      exact kt
    have hz0 := (own_V_z0 (k := 0) (by omega) own_V_0 (own_V_i2d di) own_V_0 (by decide)).1
    have K416 : own_K p e below G0 T406 (FZ 615 [.val (.ref r406), .val (.double y406), .second, .val (.double x406), .second, .val (.double 0), .second, .unset, .unset, .unset, .unset, .unset, .unset, .unset, .unset, .unset, .unset] [(.int wdf)]) := by
      intro t kt
      refine K415 t ?_
      refine XS.ifYes X406.here hx rfl (pc0 := 608) (pc' := 613) rfl (hb hby at_608) rfl ((if0 _ _).trans (teq (by decide +kernel)).1) (by decide) (by decide) ?_
      show own_S p e below T406 (mkF m 613 _ []) _
      refine XS.iload X406.here hx rfl (hb hby at_613) rfl ?_
      show own_S p e below T406 (mkF m 615 _ [(.int wdf)]) _
      exact kt
    have K417 : own_K p e below G0 T406 (FZ 629 [.val (.ref r406), .val (.double y406), .second, .val (.double x406), .second, .val (.double 0), .second, .val (.double (if wdf = (0 : Int32) then FP.dconst0 else (FP.dmul (FP.i2d di) 0))), .second, .unset, .unset, .unset, .unset, .unset, .unset, .unset, .unset] []) := by
      by_cases hc418 : wdf = (0 : Int32)
      ·
        have K419 : own_K p e below G0 T406 (FZ 629 [.val (.ref r406), .val (.double y406), .second, .val (.double x406), .second, .val (.double 0), .second, .val (.double FP.dconst0), .second, .unset, .unset, .unset, .unset, .unset, .unset, .unset, .unset] []) := by
          intro t kt
          refine K416 t ?_
          refine XS.ifYes X406.here hx rfl (pc0 := 615) (pc' := 626) rfl (hb hby at_615) rfl ((if0 _ _).trans (teq hc418).1) (by decide) (by decide) ?_
          show own_S p e below T406 (mkF m 626 _ []) _
          refine XS.dconst0 X406.here hx rfl (hb hby at_626) rfl ?_
          show own_S p e below T406 (mkF m 627 _ [(.double FP.dconst0)]) _
          refine XS.dstore X406.here hx rfl (hb hby at_627) rfl (l' := (FZ 0 [.val (.ref r406), .val (.double y406), .second, .val (.double x406), .second, .val (.double 0), .second, .val (.double FP.dconst0), .second, .unset, .unset, .unset, .unset, .unset, .unset, .unset, .unset] []).locals) rfl ?_
          show own_S p e below T406 (mkF m 629 _ []) _
          exact kt
        rw [if_pos hc418]
        exact K419
      ·
        have K420 : own_K p e below G0 T406 (FZ 629 [.val (.ref r406), .val (.double y406), .second, .val (.double x406), .second, .val (.double 0), .second, .val (.double (FP.dmul (FP.i2d di) 0)), .second, .unset, .unset, .unset, .unset, .unset, .unset, .unset, .unset] []) := by
          intro t kt
          refine K416 t ?_
          refine XS.ifNo X406.here hx rfl (hb hby at_615) rfl ((if0 _ _).trans (feq hc418).1) ?_
          show own_S p e below T406 (mkF m 618 _ []) _
          refine XS.dload X406.here hx rfl (hb hby at_618) rfl ?_
          show own_S p e below T406 (mkF m 620 _ [(.double (FP.i2d di))]) _
          refine XS.dload X406.here hx rfl (hb hby at_620) rfl ?_
          show own_S p e below T406 (mkF m 622 _ [(.double 0), (.double (FP.i2d di))]) _
          refine XS.dmulS X406.here hx rfl (hb hby at_622) rfl (own_V_nonan hz0) rfl ?_
          show own_S p e below T406 (mkF m 623 _ [(.double (FP.dmul (FP.i2d di) 0))]) _
          refine XS.goto X406.here hx rfl (pc0 := 623) (pc' := 627) rfl (hb hby at_623) (by decide) (by decide) ?_
          show own_S p e below T406 (mkF m 627 _ [(.double (FP.dmul (FP.i2d di) 0))]) _
          refine XS.dstore X406.here hx rfl (hb hby at_627) rfl (l' := (FZ 0 [.val (.ref r406), .val (.double y406), .second, .val (.double x406), .second, .val (.double 0), .second, .val (.double (FP.dmul (FP.i2d di) 0)), .second, .unset, .unset, .unset, .unset, .unset, .unset, .unset, .unset] []).locals) rfl ?_
          show own_S p e below T406 (mkF m 629 _ []) _
          exact kt
        rw [if_neg hc418]
        exact K420
    obtain ⟨dp, h_dp⟩ : ∃ z, z = (if wdf = (0 : Int32) then FP.dconst0 else (FP.dmul (FP.i2d di) 0)) := ⟨_, rfl⟩
    rw [← h_dp] at K417
    have vp : own_V 0 0 dp := by
      rw [h_dp]
      split
      · exact own_V_0
      · exact hz0
    obtain ⟨z1, z2, z3, z4, z5, z6, z7, z8, z9, z10⟩ := own_tail (me := (FP.i2d mi)) (own_V_i2d j0) (own_V_i2d j1) (own_V_i2d mi) (own_V_i2d ai) (own_V_i2d bi) (own_V_i2d ci) vp hAq hCq bAq bCq b_bi b_mi (own_I32 j0) (own_I32 j1) rfl q1406 q0406
    have K421 : own_K p e below G0 T406 (FZ 657 [.val (.ref r406), .val (.double y406), .second, .val (.double x406), .second, .val (.double 0), .second, .val (.double dp), .second, .val (.double (FP.dadd (FP.dadd (FP.dmul (FP.i2d ai) y406) (FP.dmul (FP.i2d bi) x406)) dp)), .second, .val (.double (FP.dadd (FP.dmul (FP.i2d ci) x406) dp)), .second, .unset, .unset, .unset, .unset] [(.int rdf)]) := by
      intro t kt
      refine K417 t ?_
      refine XS.dload X406.here hx rfl (hb hby at_629) rfl ?_
      show own_S p e below T406 (mkF m 631 _ [(.double (FP.i2d ai))]) _
      refine XS.dload X406.here hx rfl (hb hby at_631) rfl ?_
      show own_S p e below T406 (mkF m 633 _ [(.double y406), (.double (FP.i2d ai))]) _
      refine XS.dmulS X406.here hx rfl (hb hby at_633) rfl z1 rfl ?_
      show own_S p e below T406 (mkF m 634 _ [(.double (FP.dmul (FP.i2d ai) y406))]) _
      refine XS.dload X406.here hx rfl (hb hby at_634) rfl ?_
      show own_S p e below T406 (mkF m 636 _ [(.double (FP.i2d bi)), (.double (FP.dmul (FP.i2d ai) y406))]) _
      refine XS.dload X406.here hx rfl (hb hby at_636) rfl ?_
      show own_S p e below T406 (mkF m 638 _ [(.double x406), (.double (FP.i2d bi)), (.double (FP.dmul (FP.i2d ai) y406))]) _
      refine XS.dmulS X406.here hx rfl (hb hby at_638) rfl z2 rfl ?_
      show own_S p e below T406 (mkF m 639 _ [(.double (FP.dmul (FP.i2d bi) x406)), (.double (FP.dmul (FP.i2d ai) y406))]) _
      refine XS.daddS X406.here hx rfl (hb hby at_639) rfl z3 rfl ?_
      show own_S p e below T406 (mkF m 640 _ [(.double (FP.dadd (FP.dmul (FP.i2d ai) y406) (FP.dmul (FP.i2d bi) x406)))]) _
      refine XS.dload X406.here hx rfl (hb hby at_640) rfl ?_
      show own_S p e below T406 (mkF m 642 _ [(.double dp), (.double (FP.dadd (FP.dmul (FP.i2d ai) y406) (FP.dmul (FP.i2d bi) x406)))]) _
      refine XS.daddS X406.here hx rfl (hb hby at_642) rfl z4 rfl ?_
      show own_S p e below T406 (mkF m 643 _ [(.double (FP.dadd (FP.dadd (FP.dmul (FP.i2d ai) y406) (FP.dmul (FP.i2d bi) x406)) dp))]) _
      refine XS.dstore X406.here hx rfl (hb hby at_643) rfl (l' := (FZ 0 [.val (.ref r406), .val (.double y406), .second, .val (.double x406), .second, .val (.double 0), .second, .val (.double dp), .second, .val (.double (FP.dadd (FP.dadd (FP.dmul (FP.i2d ai) y406) (FP.dmul (FP.i2d bi) x406)) dp)), .second, .unset, .unset, .unset, .unset, .unset, .unset] []).locals) rfl ?_
      show own_S p e below T406 (mkF m 645 _ []) _
      refine XS.dload X406.here hx rfl (hb hby at_645) rfl ?_
      show own_S p e below T406 (mkF m 647 _ [(.double (FP.i2d ci))]) _
      refine XS.dload X406.here hx rfl (hb hby at_647) rfl ?_
      show own_S p e below T406 (mkF m 649 _ [(.double x406), (.double (FP.i2d ci))]) _
      refine XS.dmulS X406.here hx rfl (hb hby at_649) rfl z5 rfl ?_
      show own_S p e below T406 (mkF m 650 _ [(.double (FP.dmul (FP.i2d ci) x406))]) _
      refine XS.dload X406.here hx rfl (hb hby at_650) rfl ?_
      show own_S p e below T406 (mkF m 652 _ [(.double dp), (.double (FP.dmul (FP.i2d ci) x406))]) _
      refine XS.daddS X406.here hx rfl (hb hby at_652) rfl z6 rfl ?_
      show own_S p e below T406 (mkF m 653 _ [(.double (FP.dadd (FP.dmul (FP.i2d ci) x406) dp))]) _
      refine XS.dstore X406.here hx rfl (hb hby at_653) rfl (l' := (FZ 0 [.val (.ref r406), .val (.double y406), .second, .val (.double x406), .second, .val (.double 0), .second, .val (.double dp), .second, .val (.double (FP.dadd (FP.dadd (FP.dmul (FP.i2d ai) y406) (FP.dmul (FP.i2d bi) x406)) dp)), .second, .val (.double (FP.dadd (FP.dmul (FP.i2d ci) x406) dp)), .second, .unset, .unset, .unset, .unset] []).locals) rfl ?_
      show own_S p e below T406 (mkF m 655 _ []) _
      refine XS.iload X406.here hx rfl (hb hby at_655) rfl ?_
      show own_S p e below T406 (mkF m 657 _ [(.int rdf)]) _
      exact kt
    have K422 : own_K p e below G0 T406 (FZ 673 [.val (.ref r406), .val (.double y406), .second, .val (.double x406), .second, .val (.double 0), .second, .val (.double dp), .second, .val (.double (FP.dadd (FP.dadd (FP.dmul (FP.i2d ai) y406) (FP.dmul (FP.i2d bi) x406)) dp)), .second, .val (.double (FP.dadd (FP.dmul (FP.i2d ci) x406) dp)), .second, .val (.double (FP.i2d mi)), .second, .unset, .unset] [(.int (cmpValue (FP.dcmp (FP.dadd (FP.dadd (FP.dmul (FP.i2d ai) y406) (FP.dmul (FP.i2d bi) x406)) dp) (FP.i2d j0)) .l))]) := by
      intro t kt
      refine K421 t ?_
      refine XS.ifNo X406.here hx rfl (hb hby at_657) rfl ((if0 _ _).trans (feq hc323).1) ?_
      show own_S p e below T406 (mkF m 660 _ []) _
      refine XS.dload X406.here hx rfl (hb hby at_660) rfl ?_
      show own_S p e below T406 (mkF m 662 _ [(.double (FP.i2d mi))]) _
      refine XS.goto X406.here hx rfl (pc0 := 662) (pc' := 666) rfl (hb hby at_662) (by decide) (by decide) ?_
      show own_S p e below T406 (mkF m 666 _ [(.double (FP.i2d mi))]) _
      refine XS.dstore X406.here hx rfl (hb hby at_666) rfl (l' := (FZ 0 [.val (.ref r406), .val (.double y406), .second, .val (.double x406), .second, .val (.double 0), .second, .val (.double dp), .second, .val (.double (FP.dadd (FP.dadd (FP.dmul (FP.i2d ai) y406) (FP.dmul (FP.i2d bi) x406)) dp)), .second, .val (.double (FP.dadd (FP.dmul (FP.i2d ci) x406) dp)), .second, .val (.double (FP.i2d mi)), .second, .unset, .unset] []).locals) rfl ?_
      show own_S p e below T406 (mkF m 668 _ []) _
      refine XS.dload X406.here hx rfl (hb hby at_668) rfl ?_
      show own_S p e below T406 (mkF m 670 _ [(.double (FP.dadd (FP.dadd (FP.dmul (FP.i2d ai) y406) (FP.dmul (FP.i2d bi) x406)) dp))]) _
      refine XS.iloadN X406.here hx rfl (hb hby at_670) rfl ?_
      show own_S p e below T406 (mkF m 671 _ [(.int j0), (.double (FP.dadd (FP.dadd (FP.dmul (FP.i2d ai) y406) (FP.dmul (FP.i2d bi) x406)) dp))]) _
      refine XS.i2dS X406.here hx rfl (hb hby at_671) rfl rfl ?_
      show own_S p e below T406 (mkF m 672 _ [(.double (FP.i2d j0)), (.double (FP.dadd (FP.dadd (FP.dmul (FP.i2d ai) y406) (FP.dmul (FP.i2d bi) x406)) dp))]) _
      refine XS.dcmpS X406.here hx rfl (hb hby at_672) rfl rfl ?_
      show own_S p e below T406 (mkF m 673 _ [(.int (cmpValue (FP.dcmp (FP.dadd (FP.dadd (FP.dmul (FP.i2d ai) y406) (FP.dmul (FP.i2d bi) x406)) dp) (FP.i2d j0)) .l))]) _
      exact kt
    have K423 : own_K p e below G0 T406 (FZ 694 [.val (.ref r406), .val (.double y406), .second, .val (.double x406), .second, .val (.double 0), .second, .val (.double dp), .second, .val (.double (FP.dadd (FP.dadd (FP.dmul (FP.i2d ai) y406) (FP.dmul (FP.i2d bi) x406)) dp)), .second, .val (.double (FP.dadd (FP.dmul (FP.i2d ci) x406) dp)), .second, .val (.double (FP.i2d mi)), .second, .val (.int (1 : Int32)), .unset] [(.int (cmpValue (FP.dcmp (FP.dadd (FP.dmul (FP.i2d mi) (FP.dadd (FP.dadd (FP.dmul (FP.i2d ai) y406) (FP.dmul (FP.i2d bi) x406)) dp)) (FP.dadd (FP.dmul (FP.i2d ci) x406) dp)) (FP.i2d j1)) .l))]) := by
      intro t kt
      refine K422 t ?_
      refine XS.ifNo X406.here hx rfl (hb hby at_673) rfl ((if0 _ _).trans (teq (by rw [z9]; rfl)).2) ?_
      show own_S p e below T406 (mkF m 676 _ []) _
      refine XS.iconst X406.here hx rfl (hb hby at_676) ?_
      show own_S p e below T406 (mkF m 677 _ [(.int (1 : Int32))]) _
      refine XS.goto X406.here hx rfl (pc0 := 677) (pc' := 681) rfl (hb hby at_677) (by decide) (by decide) ?_
      show own_S p e below T406 (mkF m 681 _ [(.int (1 : Int32))]) _
      refine XS.istore X406.here hx rfl (hb hby at_681) rfl (l' := (FZ 0 [.val (.ref r406), .val (.double y406), .second, .val (.double x406), .second, .val (.double 0), .second, .val (.double dp), .second, .val (.double (FP.dadd (FP.dadd (FP.dmul (FP.i2d ai) y406) (FP.dmul (FP.i2d bi) x406)) dp)), .second, .val (.double (FP.dadd (FP.dmul (FP.i2d ci) x406) dp)), .second, .val (.double (FP.i2d mi)), .second, .val (.int (1 : Int32)), .unset] []).locals) rfl ?_
      show own_S p e below T406 (mkF m 683 _ []) _
      refine XS.dload X406.here hx rfl (hb hby at_683) rfl ?_
      show own_S p e below T406 (mkF m 685 _ [(.double (FP.i2d mi))]) _
      refine XS.dload X406.here hx rfl (hb hby at_685) rfl ?_
      show own_S p e below T406 (mkF m 687 _ [(.double (FP.dadd (FP.dadd (FP.dmul (FP.i2d ai) y406) (FP.dmul (FP.i2d bi) x406)) dp)), (.double (FP.i2d mi))]) _
      refine XS.dmulS X406.here hx rfl (hb hby at_687) rfl z7 rfl ?_
      show own_S p e below T406 (mkF m 688 _ [(.double (FP.dmul (FP.i2d mi) (FP.dadd (FP.dadd (FP.dmul (FP.i2d ai) y406) (FP.dmul (FP.i2d bi) x406)) dp)))]) _
      refine XS.dload X406.here hx rfl (hb hby at_688) rfl ?_
      show own_S p e below T406 (mkF m 690 _ [(.double (FP.dadd (FP.dmul (FP.i2d ci) x406) dp)), (.double (FP.dmul (FP.i2d mi) (FP.dadd (FP.dadd (FP.dmul (FP.i2d ai) y406) (FP.dmul (FP.i2d bi) x406)) dp)))]) _
      refine XS.daddS X406.here hx rfl (hb hby at_690) rfl z8 rfl ?_
      show own_S p e below T406 (mkF m 691 _ [(.double (FP.dadd (FP.dmul (FP.i2d mi) (FP.dadd (FP.dadd (FP.dmul (FP.i2d ai) y406) (FP.dmul (FP.i2d bi) x406)) dp)) (FP.dadd (FP.dmul (FP.i2d ci) x406) dp)))]) _
      refine XS.iloadN X406.here hx rfl (hb hby at_691) rfl ?_
      show own_S p e below T406 (mkF m 692 _ [(.int j1), (.double (FP.dadd (FP.dmul (FP.i2d mi) (FP.dadd (FP.dadd (FP.dmul (FP.i2d ai) y406) (FP.dmul (FP.i2d bi) x406)) dp)) (FP.dadd (FP.dmul (FP.i2d ci) x406) dp)))]) _
      refine XS.i2dS X406.here hx rfl (hb hby at_692) rfl rfl ?_
      show own_S p e below T406 (mkF m 693 _ [(.double (FP.i2d j1)), (.double (FP.dadd (FP.dmul (FP.i2d mi) (FP.dadd (FP.dadd (FP.dmul (FP.i2d ai) y406) (FP.dmul (FP.i2d bi) x406)) dp)) (FP.dadd (FP.dmul (FP.i2d ci) x406) dp)))]) _
      refine XS.dcmpS X406.here hx rfl (hb hby at_693) rfl rfl ?_
      show own_S p e below T406 (mkF m 694 _ [(.int (cmpValue (FP.dcmp (FP.dadd (FP.dmul (FP.i2d mi) (FP.dadd (FP.dadd (FP.dmul (FP.i2d ai) y406) (FP.dmul (FP.i2d bi) x406)) dp)) (FP.dadd (FP.dmul (FP.i2d ci) x406) dp)) (FP.i2d j1)) .l))]) _
      exact kt
    have K424 : own_K p e below G0 T406 (FZ 719 [.val (.ref r406), .val (.double y406), .second, .val (.double x406), .second, .val (.double 0), .second, .val (.double dp), .second, .val (.double (FP.dadd (FP.dadd (FP.dmul (FP.i2d ai) y406) (FP.dmul (FP.i2d bi) x406)) dp)), .second, .val (.double (FP.dadd (FP.dmul (FP.i2d ci) x406) dp)), .second, .val (.double (FP.i2d mi)), .second, .val (.int (1 : Int32)), .val (.int (1 : Int32))] [(.int (1 : Int32))]) := by
      intro t kt
      refine K423 t ?_
      refine XS.ifNo X406.here hx rfl (hb hby at_694) rfl ((if0 _ _).trans (teq (by rw [z10]; rfl)).2) ?_
      show own_S p e below T406 (mkF m 697 _ []) _
      refine XS.iconst X406.here hx rfl (hb hby at_697) ?_
      show own_S p e below T406 (mkF m 698 _ [(.int (1 : Int32))]) _
      refine XS.goto X406.here hx rfl (pc0 := 698) (pc' := 702) rfl (hb hby at_698) (by decide) (by decide) ?_
      show own_S p e below T406 (mkF m 702 _ [(.int (1 : Int32))]) _
      refine XS.istore X406.here hx rfl (hb hby at_702) rfl (l' := (FZ 0 [.val (.ref r406), .val (.double y406), .second, .val (.double x406), .second, .val (.double 0), .second, .val (.double dp), .second, .val (.double (FP.dadd (FP.dadd (FP.dmul (FP.i2d ai) y406) (FP.dmul (FP.i2d bi) x406)) dp)), .second, .val (.double (FP.dadd (FP.dmul (FP.i2d ci) x406) dp)), .second, .val (.double (FP.i2d mi)), .second, .val (.int (1 : Int32)), .val (.int (1 : Int32))] []).locals) rfl ?_
      show own_S p e below T406 (mkF m 704 _ []) _
      refine XS.iload X406.here hx rfl (hb hby at_704) rfl ?_
      show own_S p e below T406 (mkF m 706 _ [(.int (1 : Int32))]) _
      refine XS.ifNo X406.here hx rfl (hb hby at_706) rfl ((if0 _ _).trans (feq (by decide)).1) ?_
      show own_S p e below T406 (mkF m 709 _ []) _
      refine XS.iload X406.here hx rfl (hb hby at_709) rfl ?_
      show own_S p e below T406 (mkF m 711 _ [(.int (1 : Int32))]) _
      refine XS.ifNo X406.here hx rfl (hb hby at_711) rfl ((if0 _ _).trans (feq (by decide)).1) ?_
      show own_S p e below T406 (mkF m 714 _ []) _
      refine XS.iconst X406.here hx rfl (hb hby at_714) ?_
      show own_S p e below T406 (mkF m 715 _ [(.int (1 : Int32))]) _
      refine XS.goto X406.here hx rfl (pc0 := 715) (pc' := 719) rfl (hb hby at_715) (by decide) (by decide) ?_
      show own_S p e below T406 (mkF m 719 _ [(.int (1 : Int32))]) _
      exact kt
    obtain ⟨fs, hr, hrun, hended, hW, hsame⟩ := X406.leave (v := some (.int (1 : Int32))) (fun h => by rw [Bd.returns] at h; cases h)
    refine ⟨_, _, ?_, hrun, hended, _, _, rfl, ?_, ⟨_, rfl⟩, hW, hsame.mono (by decide) (by decide)⟩
    · rw [← hG0]
      refine K424 _ ?_
      exact retN X406 hx (t := .boolean) Bd.returns (by simp) (hb hby at_719) hr
    · show Q0 Z j0 j1 j2 cf sh ex h0 n0 _ T406.heap _
      exact ⟨rfl, N406⟩
set_option maxRecDepth 65536 in
set_option maxHeartbeats 40000000 in
theorem comes_1 {Post : Tables → Env → Array Value → State → Outcome → State → Prop} (hpost : ∀ tb e args s v u, (limb_1_1.after args s (.returned v) u = true ∧ limb_1_2.after args s (.returned v) u = true ∧ True) → FrameEnd s (.returned v) u (Jvm.fieldLocs frame_1_writes args s ++ Jvm.arrayLocs frame_1_arrays args s ++ Jvm.staticLocs frame_1_statics s) 64 256 → Post tb e args s (.returned v) u) :
    ArmFor flags0 classFile x code maxLocals ret World_1 tables_1 room_1 Calls_1 rest_1 Pre_1 Post := by
  intro l hfl _ _ p e ha hc hk s m args below hf hA hF happ hP
  obtain ⟨hcalls, hrest, hpre⟩ := hP
  obtain ⟨-, -, -, hnamed, -, -, -, hat⟩ := (Spec.applies_iff hf).mp happ
  obtain ⟨hg, hn⟩ := and_e (Cond.before_iff.mp (show (Jvm.Cond.and given_1 narrow_1).before args s = true from hpre))
  obtain ⟨g1, g2⟩ := and_e hg
  obtain ⟨g3, g4⟩ := and_e g2
  obtain ⟨g5, g6⟩ := and_e g4
  obtain ⟨g7, g8⟩ := and_e g6
  obtain ⟨g9, g10⟩ := and_e g8
  obtain ⟨g11, g12⟩ := and_e g10
  obtain ⟨w0, w1, w2, w3, w4, w5, rfl⟩ : ∃ w0 w1 w2 w3 w4 w5 : Value, args = #[w0, w1, w2, w3, w4, w5] := by
    have hs : args.size = 6 := by simpa [Cond.value, given_1] using g1
    obtain ⟨L⟩ := args
    match L, hs with
    | [w0, w1, w2, w3, w4, w5], _ => exact ⟨w0, w1, w2, w3, w4, w5, rfl⟩
  have hw := fun d (hd : d ∈ tables_1) => atoms_spec (ws := Jvm.Cond.code x code maxLocals ret :: tables_1) hat d (List.mem_cons_of_mem _ hd)
  have hfit : Fit s := fun {y c} hc i hi => by
    obtain ⟨ha, rfl⟩ := Array.getElem?_eq_some_iff.mp hc
    have q := List.all_eq_true.mp ((Array.all_eq_true_iff_forall_mem.mp hF) _ (Array.getElem_mem ha)) i (List.mem_range.mpr hi)
    simpa [Array.getElem?_eq_getElem hi] using q
  obtain ⟨i0, ei0⟩ := is_v g3
  obtain rfl : w0 = (.int i0) := Option.some.inj ei0
  obtain ⟨i1, ei1⟩ := is_v g5
  obtain rfl : w1 = (.int i1) := Option.some.inj ei1
  obtain ⟨i2, ei2⟩ := is_v g7
  obtain rfl : w2 = (.int i2) := Option.some.inj ei2
  obtain ⟨i3, ei3⟩ := is_v g9
  obtain rfl : w3 = (.int i3) := Option.some.inj ei3
  obtain ⟨i4, ei4⟩ := is_v g11
  obtain rfl : w4 = (.int i4) := Option.some.inj ei4
  obtain ⟨i5, ei5⟩ := is_v g12
  obtain rfl : w5 = (.int i5) := Option.some.inj ei5
  obtain ⟨n, o, h1, h2, h3, _, L, rfl, ⟨rfl, N⟩, hq⟩ := rm0 l s _ hw tables_1 i0 i1 i2 i3 i4 i5  s.heap s.heap.size (Nat.le_refl _)  p e ha hc hk s m _ below hf ((Spec.applies_iff_loose hf).mp happ).1 ⟨rfl, State.Warmed39.refl s, rfl⟩ trivial
  refine ⟨n, _, h1, h2, h3, hpost _ _ _ _ _ _ ⟨Cond.after_iff.mpr rfl, Cond.after_iff.mpr (eq_i res_at (Term.int_eval (1)) rfl), trivial⟩ ⟨hq.1, hq.2.1, (hq.2.2.sift fun y hy => Or.inr (N y hy)).mono (by decide) (by decide)⟩⟩
theorem main_1_1 : Claimed_1_1 := comes_1 fun _ _ _ _ _ _ h hF => ⟨h.1, hF⟩
theorem main_1_2 : Claimed_1_2 := comes_1 fun _ _ _ _ _ _ h hF => ⟨h.2.1, hF⟩
end Jvm.Pilot.@@N@@
namespace Jvm.Pilot.@@N@@
open Jvm Jvm.ClassFile Sem Op Lib Jvm.Free Jvm.Stand Jvm.Pilot.@@N@@.Jvm.D
/-! MADE BY PROGRAM (witnessworld.py) out of the Statement's table words and the real class files: 12 classes; the members and pool entries that the words name. The judged class is class 1, her method 1. -/
namespace start1
open Jvm.ClassFile
def u (s : String) : CpInfo := .utf8 (stringToUtf16 s)
/-- a pool by its gaps: so many unusable entries, then the entry; so many at the end -/
def gap : Nat → List CpInfo → List CpInfo
  | 0, r => r
  | n + 1, r => .unusable :: gap n r
def poolList (es : List (Nat × CpInfo)) (last : Nat) : List CpInfo := es.foldr (fun e r => gap e.1 (e.2 :: r)) (gap last [])
def pool (es : List (Nat × CpInfo)) (last : Nat) : Array CpInfo := ⟨poolList es last⟩
def fileOf (pool : Array CpInfo) (this : Nat) (attrs : Array Attribute := #[]) (ms : Array MethodInfo := #[]) (fl : Nat := 33) (sup : Nat := 0) (ifs : Array Nat := #[]) (fds : Array FieldInfo := #[]) : ClassFile where
  minorVersion := 0
  majorVersion := 65
  constantPool := pool
  accessFlags := fl
  thisClass := this
  superClass := sup
  interfaces := ifs
  fields := fds
  methods := ms
  attributes := attrs
def plain (name : String) (sup : Option ClassId) : Class where
  name := name
  kind := .ordinary
  loader := none
  accessFlags := 33
  super := sup
  interfaces := #[]
  cf := none
  fields := #[]
  methods := #[]
  instanceTypes := #[]
  staticTypes := #[]
  resolved := #[]
  callSites := []
  init := .initialized
  statics := none
  mirror := none

def pool0 : Array CpInfo := pool [(5, u "<init>"), (0, u "()V"), (1, .class_ 10), (1, u "java/lang/Object")] 113

def k0c0 : Code := { maxStack := 0, maxLocals := 1, code := object_method_1_code, exceptionTable := #[], attributes := #[] }
def k0m0 : Method := { name := "<init>", desc := "()V", sig := { parameters := [], returnType := none }, accessFlags := 1, code := some k0c0 }
/-- java/lang/Object -/
def k0 : Class := { plain "java/lang/Object" none with
  accessFlags := 33
  interfaces := #[]
  cf := some (fileOf pool0 8 #[] #[{ accessFlags := 1, nameIndex := 5, descriptorIndex := 6, attributes := #[] }] 33 0 #[] #[])
  fields := #[]
  methods := #[k0m0]
  instanceTypes := #[]
  staticTypes := #[]
  resolved := Array.replicate 124 none
  statics := none }

def pool1 : Array CpInfo := pool [(2, .class_ 4), (1, u "java/lang/Object"), (0, u "<init>"), (0, u "()V"), (0, .class_ 8), (0, u "[I"), (0, .class_ 10), (0, u "com/example/sondage/sondage/inference/Factorization"), (0, .methodref 9 12), (0, .nameAndType 5 13), (0, u "(II)V"), (0, .methodref 9 15), (0, .nameAndType 16 17), (0, u "pivot"), (0, u "(I[I[D)I"), (0, .methodref 9 19), (0, .nameAndType 20 21), (0, u "reduced"), (0, u "(IID)V"), (0, .methodref 9 23), (0, .nameAndType 24 25), (0, u "solve"), (0, u "([D)[D"), (0, .class_ 27), (0, u "com/example/sondage/sondage/inference/FactorizationSolvePinLaw"), (2, u "law"), (0, u "(IIIIII)Z")] 7

def k1m0 : Method := { name := "<init>", desc := "()V", sig := { parameters := [], returnType := none }, accessFlags := 1, code := none }
def k1c1 : Code := { maxStack := 7, maxLocals := 57, code := code, exceptionTable := #[], attributes := #[] }
def k1m1 : Method := { name := "law", desc := "(IIIIII)Z", sig := { parameters := [.int, .int, .int, .int, .int, .int], returnType := some .boolean }, accessFlags := 9, code := some k1c1 }
/-- com/example/sondage/sondage/inference/FactorizationSolvePinLaw -/
def k1 : Class := { plain "com/example/sondage/sondage/inference/FactorizationSolvePinLaw" (some 0) with
  accessFlags := 49
  interfaces := #[]
  cf := some (fileOf pool1 26 #[] #[{ accessFlags := 1, nameIndex := 5, descriptorIndex := 6, attributes := #[] }, { accessFlags := 9, nameIndex := 30, descriptorIndex := 31, attributes := #[] }] 49 2 #[] #[])
  fields := #[]
  methods := #[k1m0, k1m1]
  instanceTypes := #[]
  staticTypes := #[]
  resolved := Array.replicate 39 none
  statics := none }

def pool2 : Array CpInfo := pool [(1, .methodref 2 3), (0, .class_ 4), (0, .nameAndType 5 6), (0, u "java/lang/Object"), (0, u "<init>"), (0, u "()V"), (0, .fieldref 8 9), (0, .class_ 10), (0, .nameAndType 11 12), (0, u "com/example/sondage/sondage/inference/Factorization"), (0, u "unknownCount"), (0, u "I"), (0, .fieldref 8 14), (0, .nameAndType 15 16), (0, u "determined"), (0, u "[Z"), (0, .class_ 18), (0, u "[I"), (0, .fieldref 8 20), (0, .nameAndType 21 22), (0, u "reducedBy"), (0, u "[[I"), (0, .class_ 24), (0, u "[D"), (0, .fieldref 8 26), (0, .nameAndType 27 28), (0, u "multipliers"), (0, u "[[D"), (0, .fieldref 8 30), (0, .nameAndType 31 18), (0, u "lengths"), (0, .methodref 33 34), (0, .class_ 35), (0, .nameAndType 36 37), (0, u "java/lang/Math"), (0, u "min"), (0, u "(II)I"), (0, .fieldref 8 39), (0, .nameAndType 40 18), (0, u "pivotEquation"), (0, .fieldref 8 42), (0, .nameAndType 43 22), (0, u "pivotUnknowns"), (0, .fieldref 8 45), (0, .nameAndType 46 28), (0, u "pivotCoefficients"), (0, .fieldref 8 48), (0, .nameAndType 49 12), (0, u "pivotCount"), (9, .fieldref 8 60), (0, .nameAndType 61 62), (0, u "reductions"), (0, u "J"), (4, u "(II)V"), (2, u "pivot"), (0, u "(I[I[D)I"), (0, u "reduced"), (0, u "(IID)V"), (6, u "solve"), (0, u "([D)[D")] 4

def k2c0 : Code := { maxStack := 2, maxLocals := 4, code := prog_18_method_1_code, exceptionTable := #[], attributes := #[] }
def k2m0 : Method := { name := "<init>", desc := "(II)V", sig := { parameters := [.int, .int], returnType := none }, accessFlags := 0, code := some k2c0 }
def k2c1 : Code := { maxStack := 4, maxLocals := 5, code := prog_18_method_2_code, exceptionTable := #[], attributes := #[] }
def k2m1 : Method := { name := "pivot", desc := "(I[I[D)I", sig := { parameters := [.int, (.array .int), (.array .double)], returnType := some .int }, accessFlags := 0, code := some k2c1 }
def k2c2 : Code := { maxStack := 5, maxLocals := 6, code := prog_18_method_3_code, exceptionTable := #[], attributes := #[] }
def k2m2 : Method := { name := "reduced", desc := "(IID)V", sig := { parameters := [.int, .int, .double], returnType := none }, accessFlags := 0, code := some k2c2 }
def k2c3 : Code := { maxStack := 7, maxLocals := 10, code := prog_18_method_7_code, exceptionTable := #[], attributes := #[] }
def k2m3 : Method := { name := "solve", desc := "([D)[D", sig := { parameters := [(.array .double)], returnType := some (.array .double) }, accessFlags := 0, code := some k2c3 }
/-- com/example/sondage/sondage/inference/Factorization -/
def k2 : Class := { plain "com/example/sondage/sondage/inference/Factorization" (some 0) with
  accessFlags := 48
  interfaces := #[]
  cf := some (fileOf pool2 8 #[] #[{ accessFlags := 0, nameIndex := 5, descriptorIndex := 67, attributes := #[] }, { accessFlags := 0, nameIndex := 70, descriptorIndex := 71, attributes := #[] }, { accessFlags := 0, nameIndex := 72, descriptorIndex := 73, attributes := #[] }, { accessFlags := 0, nameIndex := 80, descriptorIndex := 81, attributes := #[] }] 48 2 #[] #[{ accessFlags := 18, nameIndex := 11, descriptorIndex := 12, attributes := #[] }, { accessFlags := 18, nameIndex := 15, descriptorIndex := 16, attributes := #[] }, { accessFlags := 2, nameIndex := 49, descriptorIndex := 12, attributes := #[] }, { accessFlags := 18, nameIndex := 21, descriptorIndex := 22, attributes := #[] }, { accessFlags := 18, nameIndex := 27, descriptorIndex := 28, attributes := #[] }, { accessFlags := 18, nameIndex := 31, descriptorIndex := 18, attributes := #[] }, { accessFlags := 18, nameIndex := 40, descriptorIndex := 18, attributes := #[] }, { accessFlags := 2, nameIndex := 61, descriptorIndex := 62, attributes := #[] }, { accessFlags := 18, nameIndex := 43, descriptorIndex := 22, attributes := #[] }, { accessFlags := 18, nameIndex := 46, descriptorIndex := 28, attributes := #[] }])
  fields := #[{ name := "unknownCount", type := .int, accessFlags := 18, slot := 0, constantValue := 0 }, { name := "determined", type := (.array .boolean), accessFlags := 18, slot := 1, constantValue := 0 }, { name := "pivotCount", type := .int, accessFlags := 2, slot := 2, constantValue := 0 }, { name := "reducedBy", type := (.array (.array .int)), accessFlags := 18, slot := 3, constantValue := 0 }, { name := "multipliers", type := (.array (.array .double)), accessFlags := 18, slot := 4, constantValue := 0 }, { name := "lengths", type := (.array .int), accessFlags := 18, slot := 5, constantValue := 0 }, { name := "pivotEquation", type := (.array .int), accessFlags := 18, slot := 6, constantValue := 0 }, { name := "reductions", type := .long, accessFlags := 2, slot := 7, constantValue := 0 }, { name := "pivotUnknowns", type := (.array (.array .int)), accessFlags := 18, slot := 8, constantValue := 0 }, { name := "pivotCoefficients", type := (.array (.array .double)), accessFlags := 18, slot := 9, constantValue := 0 }]
  methods := #[k2m0, k2m1, k2m2, k2m3]
  instanceTypes := #[.int, (.array .boolean), .int, (.array (.array .int)), (.array (.array .double)), (.array .int), (.array .int), .long, (.array (.array .int)), (.array (.array .double))]
  staticTypes := #[]
  resolved := Array.replicate 86 none
  statics := none }

def pool3 : Array CpInfo := pool [(1, .class_ 2), (0, u "java/lang/Math"), (1, .class_ 6), (1, u "java/lang/Object"), (0, u "<init>"), (0, u "()V"), (89, .class_ 100), (1, u "java/lang/Math$RandomNumberGeneratorHolder"), (71, u "negativeZeroFloatBits"), (0, u "J"), (2, u "negativeZeroDoubleBits"), (24, u "min"), (43, u "$assertionsDisabled"), (0, u "Z"), (88, u "(II)I"), (2, u "twoToTheDoubleScaleDown"), (0, u "D"), (4, u "twoToTheDoubleScaleUp"), (9, u "E"), (3, u "PI"), (2, u "TAU"), (2, u "DEGREES_TO_RADIANS"), (0, u "RADIANS_TO_DEGREES")] 94

def k3m0 : Method := { name := "<init>", desc := "()V", sig := { parameters := [], returnType := none }, accessFlags := 2, code := none }
def k3c1 : Code := { maxStack := 2, maxLocals := 2, code := jdk_29_method_69_code, exceptionTable := #[], attributes := #[] }
def k3m1 : Method := { name := "min", desc := "(II)I", sig := { parameters := [.int, .int], returnType := some .int }, accessFlags := 9, code := some k3c1 }
/-- java/lang/Math -/
def k3 : Class := { plain "java/lang/Math" (some 0) with
  accessFlags := 49
  interfaces := #[]
  cf := some (fileOf pool3 1 #[.nestMembers #[98]] #[{ accessFlags := 2, nameIndex := 7, descriptorIndex := 8, attributes := #[] }, { accessFlags := 9, nameIndex := 201, descriptorIndex := 335, attributes := #[] }] 49 4 #[] #[{ accessFlags := 25, nameIndex := 354, descriptorIndex := 339, attributes := #[] }, { accessFlags := 25, nameIndex := 358, descriptorIndex := 339, attributes := #[] }, { accessFlags := 25, nameIndex := 361, descriptorIndex := 339, attributes := #[] }, { accessFlags := 26, nameIndex := 364, descriptorIndex := 339, attributes := #[] }, { accessFlags := 26, nameIndex := 365, descriptorIndex := 339, attributes := #[] }, { accessFlags := 26, nameIndex := 172, descriptorIndex := 173, attributes := #[] }, { accessFlags := 26, nameIndex := 176, descriptorIndex := 173, attributes := #[] }, { accessFlags := 8, nameIndex := 344, descriptorIndex := 339, attributes := #[] }, { accessFlags := 8, nameIndex := 338, descriptorIndex := 339, attributes := #[] }, { accessFlags := 4120, nameIndex := 245, descriptorIndex := 246, attributes := #[] }])
  fields := #[{ name := "E", type := .double, accessFlags := 25, slot := 0, constantValue := 0 }, { name := "PI", type := .double, accessFlags := 25, slot := 1, constantValue := 0 }, { name := "TAU", type := .double, accessFlags := 25, slot := 2, constantValue := 0 }, { name := "DEGREES_TO_RADIANS", type := .double, accessFlags := 26, slot := 3, constantValue := 0 }, { name := "RADIANS_TO_DEGREES", type := .double, accessFlags := 26, slot := 4, constantValue := 0 }, { name := "negativeZeroFloatBits", type := .long, accessFlags := 26, slot := 5, constantValue := 0 }, { name := "negativeZeroDoubleBits", type := .long, accessFlags := 26, slot := 6, constantValue := 0 }, { name := "twoToTheDoubleScaleUp", type := .double, accessFlags := 8, slot := 7, constantValue := 0 }, { name := "twoToTheDoubleScaleDown", type := .double, accessFlags := 8, slot := 8, constantValue := 0 }, { name := "$assertionsDisabled", type := .boolean, accessFlags := 4120, slot := 9, constantValue := 0 }]
  methods := #[k3m0, k3m1]
  instanceTypes := #[]
  staticTypes := #[.double, .double, .double, .double, .double, .long, .long, .double, .double, .boolean]
  resolved := Array.replicate 460 none
  statics := none }

def pool4 : Array CpInfo := pool [(1, u "java/lang/Cloneable"), (0, .class_ 1), (0, u "java/lang/Object"), (0, .class_ 3)] 3

/-- java/lang/Cloneable -/
def k4 : Class := { plain "java/lang/Cloneable" (some 0) with
  accessFlags := 1537
  interfaces := #[]
  cf := some (fileOf pool4 2 #[] #[] 1537 4 #[] #[])
  fields := #[]
  methods := #[]
  instanceTypes := #[]
  staticTypes := #[]
  resolved := Array.replicate 8 none
  statics := none }

def pool5 : Array CpInfo := pool [(1, u "java/io/Serializable"), (0, .class_ 1), (0, u "java/lang/Object"), (0, .class_ 3)] 3

/-- java/io/Serializable -/
def k5 : Class := { plain "java/io/Serializable" (some 0) with
  accessFlags := 1537
  interfaces := #[]
  cf := some (fileOf pool5 2 #[] #[] 1537 4 #[] #[])
  fields := #[]
  methods := #[]
  instanceTypes := #[]
  staticTypes := #[]
  resolved := Array.replicate 8 none
  statics := none }

/-- the primitive boolean -/
def k6 : Class := { plain "boolean" none with kind := .primitive 'Z', accessFlags := 0x411 }
/-- [Z -/
def k7 : Class := { plain "[Z" (some 0) with kind := .array 6 .boolean, interfaces := #[4, 5], accessFlags := 1041 }

/-- the primitive byte -/
def k8 : Class := { plain "byte" none with kind := .primitive 'B', accessFlags := 0x411 }
/-- [B -/
def k9 : Class := { plain "[B" (some 0) with kind := .array 8 .byte, interfaces := #[4, 5], accessFlags := 1041 }

/-- the primitive int -/
def k10 : Class := { plain "int" none with kind := .primitive 'I', accessFlags := 0x411 }
/-- [I -/
def k11 : Class := { plain "[I" (some 0) with kind := .array 10 .int, interfaces := #[4, 5], accessFlags := 1041 }

def heap : Heap := #[]
def k12 : Class := { plain "double" none with kind := .primitive 'D', accessFlags := 0x411 }
def k13 : Class := { plain "[D" (some 0) with kind := .array 12 .double, interfaces := #[4, 5], accessFlags := 1041 }
def k14 : Class := { plain "[[I" (some 0) with kind := .array 11 (.array .int), interfaces := #[4, 5], accessFlags := 1041 }
def k15 : Class := { plain "[[D" (some 0) with kind := .array 13 (.array .double), interfaces := #[4, 5], accessFlags := 1041 }
def classes : Array Class := #[k0, k1, k2, k3, k4, k5, k6, k7, k8, k9, k10, k11, k12, k13, k14, k15]
def interned : List (Array UInt16 × Addr) := []
def slotsUsed : Nat := 0
def theMethod : MethodId := ⟨1, 1⟩
def args0 : Array Value := #[.int 9, .int 7, .int 3, .int 4, .int 5, .int 6]
def aboutOver (below : List Frame) : State where
  vm := { classes := classes, interned := interned.toArray }
  heap := heap
  slotsUsed := slotsUsed
  threads := #[{ frames := .invoking theMethod args0 :: below }]
def below0 : List Frame := [.native { method := ⟨0, 0⟩, args := #[] }]
def about1 : State := aboutOver below0
def p0 : Program := .bare "" "" ""
def e0 : Env := launch0.env 0 0 0
theorem w_frames : about1.frames = Frame.invoking theMethod args0 :: below0 := rfl
set_option maxRecDepth 65536 in
theorem w_args : argsFit about1.vm theMethod args0 = true := by decide +kernel
set_option maxRecDepth 65536 in
theorem w_heap : heapFits about1 = true := by decide +kernel
set_option maxRecDepth 65536 in
theorem w_runnable : about1.curStatus? = some .runnable := by decide +kernel
set_option maxRecDepth 65536 in
theorem w_alone : about1.alone = true := by decide +kernel
set_option maxRecDepth 65536 in
theorem w_named : about1.methodNamed? x = some theMethod := by decide +kernel
set_option maxRecDepth 65536 in
theorem w_hears : about1.hears theMethod below0 = true := by decide +kernel
set_option maxRecDepth 65536 in
theorem w_ripe : about1.ripe theMethod args0 below0 = true := by decide +kernel
theorem w_running : about1.status = .running := rfl
set_option maxRecDepth 65536 in
theorem w_room : about1.hasRoom e0.platform room_1 = true :=
  launch0.hasRoom_least _ room_1 (by decide +kernel) (by decide +kernel) (by decide +kernel) (by decide +kernel) (by decide +kernel) (by decide +kernel)
theorem allAtoms_all (ts : List Jvm.Cond) (a : Array Jvm.Value) (st : Jvm.State) : (allAtoms ts).before a st = ts.all (fun c => c.before a st) := by
  induction ts with
  | nil => rfl
  | cons c t ih =>
    show (Jvm.Cond.and c (allAtoms t)).before a st = _
    rw [Jvm.Cond.before_and, ih, List.all_cons]
def words1 : List Jvm.Cond := Jvm.Cond.code x code maxLocals ret :: tables_1
/-- a 'code' word, met by the world's own term for the bytes: nothing is compared byte by byte -/
theorem code_word {y : MethodName} {bytes : ByteArray} {mx : Nat} {rt : Option FieldType} {a : Array Value} {s : State} {m : MethodId} {meth : Method} {c : Code} (h1 : s.methodNamed? y = some m) (h2 : s.vm.method? m = some meth) (h3 : meth.code = some c) (h4 : c.code = bytes)
    (h5 : (c.maxLocals == mx && c.exceptionTable.isEmpty && decide (c.maxStack ≤ mostOperands) && decide (meth.sig.returnType = rt) && !meth.locks && decide (parseMethodDescriptor y.desc = some meth.sig)) = true) : (Jvm.Cond.code y bytes mx rt).before a s = true := by
  simp only [Bool.and_eq_true, beq_iff_eq, Bool.not_eq_true', decide_eq_true_eq] at h5
  obtain ⟨⟨⟨⟨⟨g1, g2⟩, g3⟩, g4⟩, g5⟩, g6⟩ := h5
  simp [Cond.before, Cond.holds, Cond.value, h1, h2, h3, h4, g1, g2, g3, g4, g5, g6]
def isCode : Jvm.Cond → Bool
  | .code _ _ _ _ => true
  | _ => false
theorem all_split {L : List Jvm.Cond} {P : Jvm.Cond → Bool} (h1 : L.all (fun c => isCode c || P c) = true) (h2 : ∀ c ∈ L.filter isCode, P c = true) : L.all P = true := by
  refine List.all_eq_true.mpr fun c hc => ?_
  have h := List.all_eq_true.mp h1 c hc
  rcases Bool.eq_false_or_eq_true (isCode c) with hi | hi
  · exact h2 c (List.mem_filter.mpr ⟨hc, hi⟩)
  · simpa [hi] using h
set_option maxRecDepth 65536 in
theorem w_c0 : (Jvm.Cond.code x code maxLocals ret).before args0 about1 = true := code_word (m := ⟨1, 1⟩) (meth := k1m1) (c := k1c1) (by decide +kernel) rfl rfl rfl (by decide +kernel)
set_option maxRecDepth 65536 in
theorem w_c1 : (Jvm.Cond.code ({ cls := "com/example/sondage/sondage/inference/Factorization", name := "<init>", desc := "(II)V" } : Jvm.MethodName) prog_18_method_1_code (4 : Nat) (Option.none : Option Jvm.ClassFile.FieldType)).before args0 about1 = true := code_word (m := ⟨2, 0⟩) (meth := k2m0) (c := k2c0) (by decide +kernel) rfl rfl rfl (by decide +kernel)
set_option maxRecDepth 65536 in
theorem w_c2 : (Jvm.Cond.code ({ cls := "java/lang/Object", name := "<init>", desc := "()V" } : Jvm.MethodName) object_method_1_code (1 : Nat) (Option.none : Option Jvm.ClassFile.FieldType)).before args0 about1 = true := code_word (m := ⟨0, 0⟩) (meth := k0m0) (c := k0c0) (by decide +kernel) rfl rfl rfl (by decide +kernel)
set_option maxRecDepth 65536 in
theorem w_c3 : (Jvm.Cond.code ({ cls := "java/lang/Math", name := "min", desc := "(II)I" } : Jvm.MethodName) jdk_29_method_69_code (2 : Nat) (Option.some Jvm.ClassFile.FieldType.int)).before args0 about1 = true := code_word (m := ⟨3, 1⟩) (meth := k3m1) (c := k3c1) (by decide +kernel) rfl rfl rfl (by decide +kernel)
set_option maxRecDepth 65536 in
theorem w_c4 : (Jvm.Cond.code ({ cls := "com/example/sondage/sondage/inference/Factorization", name := "pivot", desc := "(I[I[D)I" } : Jvm.MethodName) prog_18_method_2_code (5 : Nat) (Option.some Jvm.ClassFile.FieldType.int)).before args0 about1 = true := code_word (m := ⟨2, 1⟩) (meth := k2m1) (c := k2c1) (by decide +kernel) rfl rfl rfl (by decide +kernel)
set_option maxRecDepth 65536 in
theorem w_c5 : (Jvm.Cond.code ({ cls := "com/example/sondage/sondage/inference/Factorization", name := "reduced", desc := "(IID)V" } : Jvm.MethodName) prog_18_method_3_code (6 : Nat) (Option.none : Option Jvm.ClassFile.FieldType)).before args0 about1 = true := code_word (m := ⟨2, 2⟩) (meth := k2m2) (c := k2c2) (by decide +kernel) rfl rfl rfl (by decide +kernel)
set_option maxRecDepth 65536 in
theorem w_c6 : (Jvm.Cond.code ({ cls := "com/example/sondage/sondage/inference/Factorization", name := "solve", desc := "([D)[D" } : Jvm.MethodName) prog_18_method_7_code (10 : Nat) (Option.some (Jvm.ClassFile.FieldType.array Jvm.ClassFile.FieldType.double))).before args0 about1 = true := code_word (m := ⟨2, 3⟩) (meth := k2m3) (c := k2c3) (by decide +kernel) rfl rfl rfl (by decide +kernel)
def codes1 : List Jvm.Cond := [Jvm.Cond.code x code maxLocals ret, Jvm.Cond.code ({ cls := "com/example/sondage/sondage/inference/Factorization", name := "<init>", desc := "(II)V" } : Jvm.MethodName) prog_18_method_1_code (4 : Nat) (Option.none : Option Jvm.ClassFile.FieldType), Jvm.Cond.code ({ cls := "java/lang/Object", name := "<init>", desc := "()V" } : Jvm.MethodName) object_method_1_code (1 : Nat) (Option.none : Option Jvm.ClassFile.FieldType), Jvm.Cond.code ({ cls := "java/lang/Math", name := "min", desc := "(II)I" } : Jvm.MethodName) jdk_29_method_69_code (2 : Nat) (Option.some Jvm.ClassFile.FieldType.int), Jvm.Cond.code ({ cls := "com/example/sondage/sondage/inference/Factorization", name := "pivot", desc := "(I[I[D)I" } : Jvm.MethodName) prog_18_method_2_code (5 : Nat) (Option.some Jvm.ClassFile.FieldType.int), Jvm.Cond.code ({ cls := "com/example/sondage/sondage/inference/Factorization", name := "reduced", desc := "(IID)V" } : Jvm.MethodName) prog_18_method_3_code (6 : Nat) (Option.none : Option Jvm.ClassFile.FieldType), Jvm.Cond.code ({ cls := "com/example/sondage/sondage/inference/Factorization", name := "solve", desc := "([D)[D" } : Jvm.MethodName) prog_18_method_7_code (10 : Nat) (Option.some (Jvm.ClassFile.FieldType.array Jvm.ClassFile.FieldType.double))]
set_option maxRecDepth 65536 in
theorem codes_eq : words1.filter isCode = codes1 := rfl
theorem w_codes : ∀ c ∈ words1.filter isCode, c.before args0 about1 = true := by
  rw [codes_eq]
  intro c hc
  simp only [codes1, List.mem_cons, List.not_mem_nil, or_false] at hc
  rcases hc with rfl | rfl | rfl | rfl | rfl | rfl | rfl
  · exact w_c0
  · exact w_c1
  · exact w_c2
  · exact w_c3
  · exact w_c4
  · exact w_c5
  · exact w_c6
set_option maxRecDepth 65536 in
theorem w_t1 : (words1.take 24).all (fun c => isCode c || c.before args0 about1) = true := by decide +kernel
set_option maxRecDepth 65536 in
theorem w_t2 : ((words1.drop 24).take 24).all (fun c => isCode c || c.before args0 about1) = true := by decide +kernel
set_option maxRecDepth 65536 in
theorem w_t3 : ((words1.drop 24).drop 24).all (fun c => isCode c || c.before args0 about1) = true := by decide +kernel
theorem w_tables : (allAtoms (Jvm.Cond.code x code maxLocals ret :: tables_1)).before args0 about1 = true := by
  rw [allAtoms_all]
  show words1.all (fun c => c.before args0 about1) = true
  refine all_split ?_ w_codes
  rw [← List.take_append_drop 24 words1, List.all_append, w_t1, ← List.take_append_drop 24 (words1.drop 24), List.all_append, w_t2, w_t3]
  rfl
set_option maxRecDepth 65536 in
theorem w_case : (Jvm.Cond.and given_1 narrow_1).before args0 about1 = true := by decide +kernel
theorem w_applies : (headSpec (Jvm.Cond.code x code maxLocals ret :: tables_1) room_1).applies x e0.platform about1 = true :=
  (Spec.applies_iff w_frames).mpr ⟨w_running, w_runnable, w_alone, w_named, w_hears, w_ripe, w_room, w_tables⟩
theorem atStart : AtStart classFile x code maxLocals ret World_1 tables_1 room_1 Calls_1 rest_1 Pre_1 launch0 p0 e0 about1 theMethod args0 below0 :=
  ⟨lists_1, trivial, launch0.admits_env _ _ _, launch0.least_env, fairChoices_fair.cas, fairChoices_fair.clock, w_frames, w_args, w_heap, w_applies, trivial, trivial, w_case⟩
end start1
theorem witness_1 : WitnessClaimed_1 := ⟨start1.p0, start1.e0, start1.about1, start1.theMethod, start1.args0, start1.below0, start1.atStart⟩
end Jvm.Pilot.@@N@@
