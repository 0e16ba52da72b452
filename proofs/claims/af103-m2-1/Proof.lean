import JvmDerived
import JvmDerived.Pilot.@@N@@Statement
import JvmDerived.Pilot.@@N@@Code
set_option linter.unusedVariables false
set_option linter.unusedSimpArgs false
namespace Jvm.Pilot.@@N@@
open Jvm Jvm.ClassFile Sem Op Lib Jvm.Free Jvm.Stand Jvm.LawKit Jvm.RoadKit Bundle Jvm.Pilot.@@N@@.Jvm.D
open Jvm.Free.Fl
section OwnFP
open Jvm.FP.Core
theorem own_rep (s : Bool) (n k : Nat) (hn : n < 2 ^ 53) (hk : k ≤ 1000) : ∃ c q, Jvm.FP.Core.fits b64 (.fin s c q) ∧ zmag b64 (.fin s c q) = n * 2 ^ (1074 - k) := by
  by_cases h0 : n = 0
  · subst h0
    exact ⟨0, b64.qmin, zero_fits good_b64 s, by simp [zmag, inUnits]⟩
  · have hl1 : 2 ^ n.log2 ≤ n := Nat.log2_self_le h0
    have hl2 : n < 2 ^ (n.log2 + 1) := Nat.lt_log2_self
    have hl : n.log2 < 53 := (Nat.pow_lt_pow_iff_right (by decide)).mp (Nat.lt_of_le_of_lt hl1 hn)
    refine ⟨n * 2 ^ (52 - n.log2), (n.log2 : Int) - 52 - k, ⟨?_, ?_, ?_, Or.inr ?_⟩, ?_⟩
    · show n * 2 ^ (52 - n.log2) < 2 ^ 53
      have e : (2 : Nat) ^ 53 = 2 ^ (n.log2 + 1) * 2 ^ (52 - n.log2) := by rw [← Nat.pow_add]; congr 1; omega
      rw [e]
      exact Nat.mul_lt_mul_of_pos_right hl2 (Nat.pow_pos (by decide))
    · rw [qmin_b64]; omega
    · have : b64.qmax = 971 := by decide
      rw [this]; omega
    · rw [tails_b64]
      have e : (2 : Nat) ^ 52 = 2 ^ n.log2 * 2 ^ (52 - n.log2) := by rw [← Nat.pow_add]; congr 1; omega
      rw [e]
      exact Nat.mul_le_mul_right _ hl1
    · show inUnits _ _ b64.qmin = _
      unfold inUnits
      rw [qmin_b64, Nat.mul_assoc, ← Nat.pow_add]
      congr 2
      omega
theorem own_rr (s : Bool) (A B : Nat) (e e0 : Int) (n k : Nat) (hn : n < 2 ^ 53) (hk : k ≤ 1000) (hB : 0 < B) (h0 : e0 ≤ -1074) (h0e : e0 ≤ e) (h : inUnits A e e0 = n * 2 ^ (1074 - k) * 2 ^ (-1074 - e0).toNat * B) :
    ∃ c q, roundRatio b64 s A B e = .fin s c q ∧ zmag b64 (.fin s c q) = n * 2 ^ (1074 - k) := by
  obtain ⟨c, q, hf, hz⟩ := own_rep s n k hn hk
  have h0' : e0 ≤ b64.qmin := by rw [qmin_b64]; exact h0
  have le := zmag_roundRatio_le good_b64 (s := s) (V := .fin s c q) hB hf (by simp) h0' h0e (by rw [hz, qmin_b64]; exact Nat.le_of_eq h)
  have ge := zmag_roundRatio_ge good_b64 (s := s) (V := .fin s c q) hB hf h0' h0e (by rw [hz, qmin_b64]; exact Nat.le_of_eq h.symm)
  have zz := Nat.le_antisymm le ge
  have top := zmag_lt_top good_b64 hf
  have sg := sgn_roundRatio b64 s A B e
  have nn := roundRatio_ne_nan b64 s A B e
  cases hr : roundRatio b64 s A B e with
  | nan => exact absurd hr nn
  | inf t =>
    exfalso
    rw [hr] at zz
    have e2 : b64.tails * 2 ^ (b64.exps - 2) = zmag b64 (.fin s c q) := zz
    rw [e2] at top
    exact Nat.lt_irrefl _ top
  | fin t c' q' =>
    rw [hr] at sg zz
    have e1 : t = s := sg
    subst e1
    exact ⟨c', q', rfl, zz.trans hz⟩
/-- x is the number n / 2^k -/
def own_V (k : Nat) (n : Int) (x : UInt64) : Prop := ∃ s c q, val64 x = .fin s c q ∧ zval b64 (.fin s c q) = n * (2 ^ (1074 - k) : Nat)
theorem own_round (k : Nat) (sg : Bool) (N : Nat) (e e0 : Int) (n : Int) (hk : k ≤ 1000) (h0 : e0 ≤ -1074) (he : e0 ≤ e) (hn : n.natAbs < 2 ^ 53) (h : signed sg (inUnits N e e0) = n * (2 ^ (1074 - k) : Nat) * (2 ^ (-1074 - e0).toNat : Nat)) :
    ∃ s c q, round b64 (.fin sg N e) = .fin s c q ∧ zval b64 (.fin s c q) = n * (2 ^ (1074 - k) : Nat) := by
  have hab := congrArg Int.natAbs h
  rw [natAbs_signed, Int.natAbs_mul, Int.natAbs_mul, Int.natAbs_natCast, Int.natAbs_natCast] at hab
  obtain ⟨c, q, h1, h2⟩ := own_rr sg N 1 e e0 n.natAbs k hn hk (by decide) h0 he (by rw [Nat.mul_one]; exact hab)
  refine ⟨sg, c, q, h1, ?_⟩
  show signed sg (zmag b64 (.fin sg c q)) = _
  rw [h2]
  have p1 : 0 < 2 ^ (1074 - k) := Nat.pow_pos (by decide)
  have p2 : 0 < 2 ^ (-1074 - e0).toNat := Nat.pow_pos (by decide)
  rw [hab] at h
  generalize 2 ^ (1074 - k) = P at *
  generalize 2 ^ (-1074 - e0).toNat = R at *
  rw [signed_mul, signed_mul] at h
  rw [signed_mul]
  have hR : (R : Int) ≠ 0 := by omega
  exact Int.eq_of_mul_eq_mul_right hR h
theorem own_V_l2d (v : Int64) (h : v.toInt.natAbs < 2 ^ 53) : own_V 0 v.toInt (Jvm.FP.l2d v) := by
  obtain ⟨s, c, q, h1, h2⟩ := own_round 0 (decide (v.toInt < 0)) v.toInt.natAbs 0 (-1074) v.toInt (by decide) (by decide) (by decide) h (by
    unfold inUnits
    rw [signed_mul]
    have : signed (decide (v.toInt < 0)) v.toInt.natAbs = v.toInt := by
      unfold signed
      by_cases q : v.toInt < 0
      · simp [q]; omega
      · simp [q]; omega
    rw [this]
    simp)
  exact ⟨s, c, q, (val64_l2d v).trans h1, h2⟩
theorem own_V_add {k : Nat} {a b : Int} {x y : UInt64} (hk : k ≤ 1000) (hx : own_V k a x) (hy : own_V k b y) (h : (a + b).natAbs < 2 ^ 53) : own_V k (a + b) (Jvm.FP.dadd x y) := by
  obtain ⟨s, c, q, x1, x2⟩ := hx
  obtain ⟨t, d, r, y1, y2⟩ := hy
  have fx := val64_fits x
  have fy := val64_fits y
  rw [x1] at fx
  rw [y1] at fy
  obtain ⟨sg, N, e, s1, s2, s3⟩ := sum_units fx fy
  rw [x2, y2, ← Int.add_mul] at s3
  rw [qmin_b64] at s2 s3
  obtain ⟨u, c', q', r1, r2⟩ := own_round k sg N e (-1074) (a + b) hk (by decide) s2 h (by rw [s3]; simp)
  exact ⟨u, c', q', by rw [show val64 (Jvm.FP.dadd x y) = _ from val64_dadd x y, x1, y1, s1]; exact r1, r2⟩
theorem own_V_sub {k : Nat} {a b : Int} {x y : UInt64} (hk : k ≤ 1000) (hx : own_V k a x) (hy : own_V k b y) (h : (a - b).natAbs < 2 ^ 53) : own_V k (a - b) (Jvm.FP.dsub x y) := by
  obtain ⟨s, c, q, x1, x2⟩ := hx
  obtain ⟨t, d, r, y1, y2⟩ := hy
  have fx := val64_fits x
  have fy := negate_fits (val64_fits y)
  rw [x1] at fx
  rw [y1] at fy
  have y3 := zval_negate b64 (.fin t d r)
  obtain ⟨sg, N, e, s1, s2, s3⟩ := sum_units (t := !t) fx fy
  have y4 : zval b64 (.fin (!t) d r) = -zval b64 (.fin t d r) := y3
  rw [y4, x2, y2, ← Int.neg_mul, ← Int.add_mul] at s3
  rw [qmin_b64] at s2 s3
  obtain ⟨u, c', q', r1, r2⟩ := own_round k sg N e (-1074) (a - b) hk (by decide) s2 h (by rw [s3]; simp [Int.sub_eq_add_neg])
  exact ⟨u, c', q', by rw [show val64 (Jvm.FP.dsub x y) = _ from val64_dsub x y, x1, y1]; show round b64 (exactSum _ (.fin (!t) d r)) = _; rw [s1]; exact r1, r2⟩
theorem own_pow_add (k j : Nat) (h : k + j ≤ 1000) : 2 ^ (1074 - k) * 2 ^ (1074 - j) = 2 ^ (1074 - (k + j)) * 2 ^ 1074 := by
  rw [← Nat.pow_add, ← Nat.pow_add]; congr 1; omega
theorem own_signed_ne (s t : Bool) (a b : Nat) : signed (s != t) (a * b) = signed s a * signed t b := by
  cases s <;> cases t <;> simp [signed, Int.neg_mul, Int.mul_neg]
theorem own_V_mul {k j : Nat} {a b : Int} {x y : UInt64} (hk : k + j ≤ 1000) (hx : own_V k a x) (hy : own_V j b y) (h : (a * b).natAbs < 2 ^ 53) : own_V (k + j) (a * b) (Jvm.FP.dmul x y) := by
  obtain ⟨s, c, q, x1, x2⟩ := hx
  obtain ⟨t, d, r, y1, y2⟩ := hy
  have fx := val64_fits x
  have fy := val64_fits y
  rw [x1] at fx
  rw [y1] at fy
  obtain ⟨s1, s2, s3⟩ := product_units fx fy
  rw [qmin_b64] at s2 s3
  obtain ⟨u, c', q', r1, r2⟩ := own_round (k + j) (s != t) (c * d) (q + r) (2 * -1074) (a * b) hk (by decide) s2 h (by
    rw [s3, own_signed_ne]
    have e1 : signed s (zmag b64 (.fin s c q)) = a * (2 ^ (1074 - k) : Nat) := x2
    have e2 : signed t (zmag b64 (.fin t d r)) = b * (2 ^ (1074 - j) : Nat) := y2
    rw [e1, e2]
    have e3 : (-1074 - 2 * -1074 : Int).toNat = 1074 := by decide
    rw [e3]
    have e4 : ((2 ^ (1074 - k) : Nat) : Int) * ((2 ^ (1074 - j) : Nat) : Int) = ((2 ^ (1074 - (k + j)) : Nat) : Int) * ((2 ^ 1074 : Nat) : Int) := by
      rw [← Int.natCast_mul, own_pow_add k j hk, Int.natCast_mul]
    generalize ((2 ^ (1074 - k) : Nat) : Int) = P1 at *
    generalize ((2 ^ (1074 - j) : Nat) : Int) = P2 at *
    generalize ((2 ^ (1074 - (k + j)) : Nat) : Int) = P3 at *
    generalize ((2 ^ 1074 : Nat) : Int) = P4 at *
    rw [Int.mul_assoc (a * b), ← e4]
    simp only [Int.mul_assoc, Int.mul_left_comm, Int.mul_comm])
  exact ⟨u, c', q', by rw [show val64 (Jvm.FP.dmul x y) = _ from val64_dmul x y, x1, y1, s1]; exact r1, r2⟩
theorem own_V_nonan {k : Nat} {a : Int} {x : UInt64} (hx : own_V k a x) : Jvm.Free.Fl.NoNaN64 x := by
  obtain ⟨s, c, q, x1, -⟩ := hx
  rw [Jvm.Free.Fl.noNaN64_no, notNaN_iff, x1]
  simp
theorem own_V_cmp {k : Nat} {a b : Int} {x y : UInt64} (hx : own_V k a x) (hy : own_V k b y) : Jvm.FP.dcmp x y = some (compare a b) := by
  obtain ⟨s, c, q, x1, x2⟩ := hx
  obtain ⟨t, d, r, y1, y2⟩ := hy
  have := dcmp_zval (a := x) (b := y) (by rw [x1]; simp) (by rw [y1]; simp)
  rw [x1, y1, x2, y2] at this
  refine this.trans ?_
  congr 1
  have hp : (0 : Int) < ((2 ^ (1074 - k) : Nat) : Int) := by
    have : 0 < 2 ^ (1074 - k) := Nat.pow_pos (by decide)
    omega
  apply compare_congr
  · exact Int.mul_lt_mul_right hp
  · constructor
    · intro q; exact Int.eq_of_mul_eq_mul_right (by omega) q
    · intro q; rw [q]
theorem own_bt (s t : Bool) (h : ¬ (s = false ↔ t = false)) : (s != t) = true := by
  cases s <;> cases t <;> simp_all
theorem own_bf (s t : Bool) (h : s = false ↔ t = false) : (s != t) = false := by
  cases s <;> cases t <;> simp_all
/-- an exact quotient: a / 2^k = (n / 2^i) * (b / 2^j) -/
theorem own_V_div {k j i : Nat} {a b n : Int} {x y : UInt64} (hk : k ≤ 1000) (hi : i ≤ 1000) (hj : j ≤ 1000) (hx : own_V k a x) (hy : own_V j b y) (hb : b ≠ 0) (h : n.natAbs < 2 ^ 53) (he : a * (2 ^ (i + j) : Nat) = n * b * (2 ^ k : Nat)) (hs : a ≠ 0) : own_V i n (Jvm.FP.ddiv x y) := by
  obtain ⟨s, c, q, x1, x2⟩ := hx
  obtain ⟨t, d, r, y1, y2⟩ := hy
  have fx := val64_fits x
  have fy := val64_fits y
  rw [x1] at fx
  rw [y1] at fy
  have q1 := fx.2.1
  have r1 := fy.2.1
  rw [qmin_b64] at q1 r1
  have zx : signed s (c * 2 ^ (q + 1074).toNat) = a * (2 ^ (1074 - k) : Nat) := by
    have : zval b64 (.fin s c q) = signed s (inUnits c q b64.qmin) := rfl
    rw [this, qmin_b64] at x2
    exact x2
  have zy : signed t (d * 2 ^ (r + 1074).toNat) = b * (2 ^ (1074 - j) : Nat) := by
    have : zval b64 (.fin t d r) = signed t (inUnits d r b64.qmin) := rfl
    rw [this, qmin_b64] at y2
    exact y2
  have hd : d ≠ 0 := by
    intro q0
    rw [q0, Nat.zero_mul, signed_zero] at zy
    have p : ((2 ^ (1074 - j) : Nat) : Int) ≠ 0 := by
      have : 0 < 2 ^ (1074 - j) := Nat.pow_pos (by decide)
      omega
    exact (Int.mul_ne_zero hb p) zy.symm
  have ax := congrArg Int.natAbs zx
  have ay := congrArg Int.natAbs zy
  rw [natAbs_signed, Int.natAbs_mul, Int.natAbs_natCast] at ax ay
  have an := congrArg Int.natAbs he
  rw [Int.natAbs_mul, Int.natAbs_mul, Int.natAbs_mul, Int.natAbs_natCast, Int.natAbs_natCast] at an
  obtain ⟨m3, hm3⟩ : ∃ m : Nat, 3000 ≤ m := ⟨3000, Nat.le_refl _⟩
  obtain ⟨c', q', w1, w2⟩ := own_rr (s != t) c d (q - r) (q - r - 1074 - (q + 1074).toNat - (m3 : Int)) n.natAbs i h hi (by omega) (by omega) (by omega) (by
    unfold inUnits
    rw [show (q - r - (q - r - 1074 - ((q + 1074).toNat : Int) - (m3 : Int))).toNat = 1074 + (q + 1074).toNat + m3 by omega]
    have e1 : c * 2 ^ (1074 + (q + 1074).toNat + m3) = a.natAbs * 2 ^ (1074 - k) * 2 ^ (1074 + m3) := by
      rw [show 1074 + (q + 1074).toNat + m3 = (q + 1074).toNat + (1074 + m3) by omega, Nat.pow_add, ← Nat.mul_assoc, ax]
    have e2 : n.natAbs * 2 ^ (1074 - i) * 2 ^ (-1074 - (q - r - 1074 - ((q + 1074).toNat : Int) - (m3 : Int))).toNat * d = n.natAbs * 2 ^ (1074 - i) * (b.natAbs * 2 ^ (1074 - j)) * 2 ^ m3 := by
      rw [← ay, show (-1074 - (q - r - 1074 - ((q + 1074).toNat : Int) - (m3 : Int))).toNat = (r + 1074).toNat + m3 by omega, Nat.pow_add]
      generalize 2 ^ (r + 1074).toNat = A1
      generalize 2 ^ m3 = A2
      generalize 2 ^ (1074 - i) = A3
      simp only [Nat.mul_assoc, Nat.mul_left_comm, Nat.mul_comm]
    rw [e1, e2]
    have e3 : (2 : Nat) ^ (1074 - k) * 2 ^ (1074 + m3) * 2 ^ k = 2 ^ (1074 - i) * 2 ^ (1074 - j) * 2 ^ m3 * 2 ^ (i + j) := by
      rw [← Nat.pow_add, ← Nat.pow_add, ← Nat.pow_add, ← Nat.pow_add, ← Nat.pow_add]; congr 1; omega
    have hp : 0 < 2 ^ (i + j) * 2 ^ k := Nat.mul_pos (Nat.pow_pos (by decide)) (Nat.pow_pos (by decide))
    apply Nat.eq_of_mul_eq_mul_right hp
    have l1 : a.natAbs * 2 ^ (1074 - k) * 2 ^ (1074 + m3) * (2 ^ (i + j) * 2 ^ k) = (a.natAbs * 2 ^ (i + j)) * (2 ^ (1074 - k) * 2 ^ (1074 + m3) * 2 ^ k) := by
      generalize 2 ^ (1074 - k) = A1
      generalize 2 ^ (1074 + m3) = A2
      generalize 2 ^ (i + j) = A3
      generalize 2 ^ k = A4
      simp only [Nat.mul_assoc, Nat.mul_left_comm, Nat.mul_comm]
    have l2 : n.natAbs * 2 ^ (1074 - i) * (b.natAbs * 2 ^ (1074 - j)) * 2 ^ m3 * (2 ^ (i + j) * 2 ^ k) = (n.natAbs * b.natAbs * 2 ^ k) * (2 ^ (1074 - i) * 2 ^ (1074 - j) * 2 ^ m3 * 2 ^ (i + j)) := by
      generalize 2 ^ (1074 - i) = A1
      generalize 2 ^ (1074 - j) = A2
      generalize 2 ^ (i + j) = A3
      generalize 2 ^ k = A4
      generalize 2 ^ m3 = A5
      simp only [Nat.mul_assoc, Nat.mul_left_comm, Nat.mul_comm]
    rw [l1, l2, an, e3])
  have hv : val64 (Jvm.FP.ddiv x y) = roundRatio b64 (s != t) c d (q - r) := by
    rw [show val64 (Jvm.FP.ddiv x y) = _ from val64_ddiv x y, x1, y1]
    show (if d = 0 then _ else _) = _
    rw [if_neg hd]
  refine ⟨s != t, c', q', hv.trans w1, ?_⟩
  show signed (s != t) (zmag b64 (.fin (s != t) c' q')) = _
  rw [w2, signed_mul]
  congr 1
  -- the sign
  have sx : signed s a.natAbs = a := by
    rw [ax, signed_mul] at zx
    have p : ((2 ^ (1074 - k) : Nat) : Int) ≠ 0 := by
      have : 0 < 2 ^ (1074 - k) := Nat.pow_pos (by decide)
      omega
    exact Int.eq_of_mul_eq_mul_right p zx
  have sy : signed t b.natAbs = b := by
    rw [ay, signed_mul] at zy
    have p : ((2 ^ (1074 - j) : Nat) : Int) ≠ 0 := by
      have : 0 < 2 ^ (1074 - j) := Nat.pow_pos (by decide)
      omega
    exact Int.eq_of_mul_eq_mul_right p zy
  have hn0 : n ≠ 0 := by
    intro q0
    rw [q0, Int.zero_mul, Int.zero_mul] at he
    have p : ((2 ^ (i + j) : Nat) : Int) ≠ 0 := by
      have : 0 < 2 ^ (i + j) := Nat.pow_pos (by decide)
      omega
    exact (Int.mul_ne_zero hs p) he
  have p1 : (0 : Int) < ((2 ^ (i + j) : Nat) : Int) := by
    have : 0 < 2 ^ (i + j) := Nat.pow_pos (by decide)
    omega
  have p2 : (0 : Int) < ((2 ^ k : Nat) : Int) := by
    have : 0 < 2 ^ k := Nat.pow_pos (by decide)
    omega
  generalize ((2 ^ (i + j) : Nat) : Int) = P1 at *
  generalize ((2 ^ k : Nat) : Int) = P2 at *
  -- signs: a and n * b agree
  have hsg : 0 < a ↔ 0 < n * b := by
    constructor
    · intro q
      have : 0 < n * b * P2 := he ▸ Int.mul_pos q p1
      rcases Int.lt_or_le 0 (n * b) with z | z
      · exact z
      · have := Int.mul_nonpos_of_nonpos_of_nonneg z (Int.le_of_lt p2)
        omega
    · intro q
      have : 0 < a * P1 := he ▸ Int.mul_pos q p2
      rcases Int.lt_or_le 0 a with z | z
      · exact z
      · have := Int.mul_nonpos_of_nonpos_of_nonneg z (Int.le_of_lt p1)
        omega
  have s1 : signed (s != t) n.natAbs = n := by
    have ha : (s = false ↔ 0 < a) := by
      cases s with
      | false => simp only [true_iff]; have : (a.natAbs : Int) = a := sx; omega
      | true => simp only [Bool.true_eq_false, false_iff]; have : -(a.natAbs : Int) = a := sx; omega
    have hbb : (t = false ↔ 0 < b) := by
      cases t with
      | false => simp only [true_iff]; have : (b.natAbs : Int) = b := sy; omega
      | true => simp only [Bool.true_eq_false, false_iff]; have : -(b.natAbs : Int) = b := sy; omega
    rcases Int.lt_or_gt_of_ne hn0 with nneg | npos
    · have k1 : ¬ (0 < a ↔ 0 < b) := by
        intro q
        rw [hsg] at q
        rcases Int.lt_or_gt_of_ne hb with bneg | bpos
        · have : 0 < n * b := Int.mul_pos_of_neg_of_neg nneg bneg
          have := q.mp this
          omega
        · have := q.mpr bpos
          have : n * b < 0 := Int.mul_neg_of_neg_of_pos nneg bpos
          omega
      have k2 : ¬ (s = false ↔ t = false) := fun z => k1 (ha.symm.trans (z.trans hbb))
      have : (s != t) = true := own_bt s t k2
      rw [this]
      show -(n.natAbs : Int) = n
      omega
    · have k1 : (0 < a ↔ 0 < b) := by
        rw [hsg]
        constructor
        · intro q
          rcases Int.lt_or_gt_of_ne hb with bneg | bpos
          · have : n * b < 0 := Int.mul_neg_of_pos_of_neg npos bneg
            omega
          · exact bpos
        · intro q
          exact Int.mul_pos npos q
      have k2 : (s = false ↔ t = false) := ha.trans (k1.trans hbb.symm)
      have : (s != t) = false := own_bf s t k2
      rw [this]
      show (n.natAbs : Int) = n
      omega
  exact s1
end OwnFP
section OwnFW
open Jvm.FP.Core
theorem own_V_div0 {k j i : Nat} {b : Int} {x y : UInt64} (hx : own_V k 0 x) (hy : own_V j b y) (hb : b ≠ 0) : own_V i 0 (Jvm.FP.ddiv x y) := by
  obtain ⟨s, c, q, x1, x2⟩ := hx
  obtain ⟨t, d, r, y1, y2⟩ := hy
  have hc : c = 0 := by
    rw [Int.zero_mul] at x2
    have : signed s (inUnits c q b64.qmin) = 0 := x2
    rw [signed_eq_zero] at this
    unfold inUnits at this
    rcases Nat.mul_eq_zero.mp this with z | z
    · exact z
    · exact absurd z (Nat.ne_of_gt (Nat.pow_pos (by decide)))
  have hd : d ≠ 0 := by
    intro q0
    subst q0
    have : signed t (inUnits 0 r b64.qmin) = b * (2 ^ (1074 - j) : Nat) := y2
    unfold inUnits at this
    rw [Nat.zero_mul, signed_zero] at this
    have p : ((2 ^ (1074 - j) : Nat) : Int) ≠ 0 := by
      have : 0 < 2 ^ (1074 - j) := Nat.pow_pos (by decide)
      omega
    exact (Int.mul_ne_zero hb p) this.symm
  subst hc
  refine ⟨s != t, 0, b64.qmin, ?_, ?_⟩
  · rw [show val64 (Jvm.FP.ddiv x y) = _ from val64_ddiv x y, x1, y1]
    show (if d = 0 then _ else roundRatio b64 (s != t) 0 d (q - r)) = _
    rw [if_neg hd]
    rfl
  · show signed (s != t) (inUnits 0 b64.qmin b64.qmin) = _
    unfold inUnits
    rw [Nat.zero_mul, signed_zero, Int.zero_mul]
/-- x is a positive number between lo / 2^i and hi / 2^i -/
def own_W (i lo hi : Nat) (x : UInt64) : Prop := ∃ c q, val64 x = .fin false c q ∧ lo * 2 ^ (1074 - i) ≤ zmag b64 (.fin false c q) ∧ zmag b64 (.fin false c q) ≤ hi * 2 ^ (1074 - i)
theorem own_rrW (A B : Nat) (e e0 : Int) (lo hi k : Nat) (hl : lo < 2 ^ 53) (hh : hi < 2 ^ 53) (hk : k ≤ 1000) (hB : 0 < B) (h0 : e0 ≤ -1074) (h0e : e0 ≤ e) (h1 : lo * 2 ^ (1074 - k) * 2 ^ (-1074 - e0).toNat * B ≤ inUnits A e e0) (h2 : inUnits A e e0 ≤ hi * 2 ^ (1074 - k) * 2 ^ (-1074 - e0).toNat * B) :
    ∃ c q, roundRatio b64 false A B e = .fin false c q ∧ lo * 2 ^ (1074 - k) ≤ zmag b64 (.fin false c q) ∧ zmag b64 (.fin false c q) ≤ hi * 2 ^ (1074 - k) := by
  obtain ⟨c1, q1, hf1, hz1⟩ := own_rep false lo k hl hk
  obtain ⟨c2, q2, hf2, hz2⟩ := own_rep false hi k hh hk
  have h0' : e0 ≤ b64.qmin := by rw [qmin_b64]; exact h0
  have le := zmag_roundRatio_le good_b64 (s := false) (V := .fin false c2 q2) hB hf2 (by simp) h0' h0e (by rw [hz2, qmin_b64]; exact h2)
  have ge := zmag_roundRatio_ge good_b64 (s := false) (V := .fin false c1 q1) hB hf1 h0' h0e (by rw [hz1, qmin_b64]; exact h1)
  have top := zmag_lt_top good_b64 hf2
  have sg := sgn_roundRatio b64 false A B e
  have nn := roundRatio_ne_nan b64 false A B e
  cases hr : roundRatio b64 false A B e with
  | nan => exact absurd hr nn
  | inf t =>
    exfalso
    rw [hr] at le
    have e2 : b64.tails * 2 ^ (b64.exps - 2) ≤ zmag b64 (.fin false c2 q2) := le
    exact Nat.lt_irrefl _ (Nat.lt_of_lt_of_le top e2)
  | fin t c' q' =>
    rw [hr] at sg le ge
    have e1 : t = false := sg
    subst e1
    rw [hz1] at ge
    rw [hz2] at le
    exact ⟨c', q', rfl, ge, le⟩
theorem own_pos {s : Bool} {c : Nat} {q : Int} {a : Nat} {P : Nat} (hP : 0 < P) (ha : 0 < a) (h : zval b64 (.fin s c q) = (a : Int) * (P : Nat)) : s = false ∧ zmag b64 (.fin s c q) = a * P := by
  have h' : signed s (zmag b64 (.fin s c q)) = (a : Int) * (P : Nat) := h
  rw [← Int.natCast_mul] at h'
  have hp : 0 < a * P := Nat.mul_pos ha hP
  cases s with
  | false =>
    have : ((zmag b64 (.fin false c q) : Nat) : Int) = ((a * P : Nat) : Int) := h'
    exact ⟨rfl, by omega⟩
  | true =>
    exfalso
    have : -((zmag b64 (.fin true c q) : Nat) : Int) = ((a * P : Nat) : Int) := h'
    omega
theorem own_W_div {A B i lo hi : Nat} {x y : UInt64} (hx : own_V 0 (A : Int) x) (hy : own_V 0 (B : Int) y) (hA : 0 < A) (hB : 0 < B) (hi0 : i ≤ 1000) (hl : lo < 2 ^ 53) (hh : hi < 2 ^ 53) (h1 : lo * B ≤ A * 2 ^ i) (h2 : A * 2 ^ i ≤ hi * B) : own_W i lo hi (Jvm.FP.ddiv x y) := by
  obtain ⟨s, c, q, x1, x2⟩ := hx
  obtain ⟨t, d, r, y1, y2⟩ := hy
  have fx := val64_fits x
  have fy := val64_fits y
  rw [x1] at fx
  rw [y1] at fy
  have q1 := fx.2.1
  have r1 := fy.2.1
  rw [qmin_b64] at q1 r1
  have pU : 0 < 2 ^ (1074 - 0) := Nat.pow_pos (by decide)
  obtain ⟨s1, zx⟩ := own_pos pU hA x2
  obtain ⟨t1, zy⟩ := own_pos pU hB y2
  subst s1 t1
  have zx' : c * 2 ^ (q + 1074).toNat = A * 2 ^ (1074 - 0) := by
    have : inUnits c q b64.qmin = A * 2 ^ (1074 - 0) := zx
    rw [qmin_b64] at this
    exact this
  have zy' : d * 2 ^ (r + 1074).toNat = B * 2 ^ (1074 - 0) := by
    have : inUnits d r b64.qmin = B * 2 ^ (1074 - 0) := zy
    rw [qmin_b64] at this
    exact this
  have hd : 0 < d := by
    rcases Nat.eq_zero_or_pos d with z | z
    · exfalso
      rw [z, Nat.zero_mul] at zy'
      have := Nat.mul_pos hB pU
      omega
    · exact z
  obtain ⟨m3, hm3⟩ : ∃ m : Nat, 3000 ≤ m := ⟨3000, Nat.le_refl _⟩
  have eA : inUnits c (q - r) (q - r - 1074 - ((q + 1074).toNat : Int) - (m3 : Int)) = A * 2 ^ (1074 - 0) * 2 ^ (1074 + m3) := by
    unfold inUnits
    rw [show (q - r - (q - r - 1074 - ((q + 1074).toNat : Int) - (m3 : Int))).toNat = (q + 1074).toNat + (1074 + m3) by omega, Nat.pow_add, ← Nat.mul_assoc, zx']
  have eB : ∀ n : Nat, n * 2 ^ (1074 - i) * 2 ^ (-1074 - (q - r - 1074 - ((q + 1074).toNat : Int) - (m3 : Int))).toNat * d = n * B * (2 ^ (1074 - i) * 2 ^ (1074 - 0) * 2 ^ m3) := fun n => by
    rw [show (-1074 - (q - r - 1074 - ((q + 1074).toNat : Int) - (m3 : Int))).toNat = (r + 1074).toNat + m3 by omega, Nat.pow_add]
    have : n * B * (2 ^ (1074 - i) * 2 ^ (1074 - 0) * 2 ^ m3) = n * (B * 2 ^ (1074 - 0)) * (2 ^ (1074 - i) * 2 ^ m3) := by
      generalize 2 ^ (1074 - i) = A1
      generalize 2 ^ (1074 - 0) = A2
      generalize 2 ^ m3 = A3
      simp only [Nat.mul_assoc, Nat.mul_left_comm, Nat.mul_comm]
    rw [this, ← zy']
    generalize 2 ^ (r + 1074).toNat = A1
    generalize 2 ^ m3 = A2
    generalize 2 ^ (1074 - i) = A3
    simp only [Nat.mul_assoc, Nat.mul_left_comm, Nat.mul_comm]
  have eC : A * 2 ^ (1074 - 0) * 2 ^ (1074 + m3) = A * 2 ^ i * (2 ^ (1074 - i) * 2 ^ (1074 - 0) * 2 ^ m3) := by
    have : (2 : Nat) ^ (1074 + m3) = 2 ^ i * 2 ^ (1074 - i) * 2 ^ m3 := by rw [← Nat.pow_add, ← Nat.pow_add]; congr 1; omega
    rw [this]
    generalize 2 ^ (1074 - i) = A1
    generalize 2 ^ (1074 - 0) = A2
    generalize 2 ^ m3 = A3
    generalize 2 ^ i = A4
    simp only [Nat.mul_assoc, Nat.mul_left_comm, Nat.mul_comm]
  obtain ⟨c', q', w1, w2, w3⟩ := own_rrW c d (q - r) (q - r - 1074 - ((q + 1074).toNat : Int) - (m3 : Int)) lo hi i hl hh hi0 hd (by omega) (by omega) (by rw [eB, eA, eC]; exact Nat.mul_le_mul_right _ h1) (by rw [eB, eA, eC]; exact Nat.mul_le_mul_right _ h2)
  refine ⟨c', q', ?_, w2, w3⟩
  rw [show val64 (Jvm.FP.ddiv x y) = _ from val64_ddiv x y, x1, y1]
  show (if d = 0 then _ else roundRatio b64 (false != false) c d (q - r)) = _
  rw [if_neg (by omega)]
  exact w1
theorem own_W_mul {i j lo hi : Nat} {x y : UInt64} (hx : own_W (i + j) lo hi x) (hy : own_V 0 ((2 ^ j : Nat) : Int) y) (hi0 : i + j ≤ 1000) (hl : lo < 2 ^ 53) (hh : hi < 2 ^ 53) : own_W i lo hi (Jvm.FP.dmul x y) := by
  obtain ⟨c, q, x1, x2, x3⟩ := hx
  obtain ⟨t, d, r, y1, y2⟩ := hy
  have fx := val64_fits x
  have fy := val64_fits y
  rw [x1] at fx
  rw [y1] at fy
  have pU : 0 < 2 ^ (1074 - 0) := Nat.pow_pos (by decide)
  obtain ⟨t1, zy⟩ := own_pos pU (Nat.pow_pos (by decide)) y2
  subst t1
  obtain ⟨s1, s2, s3⟩ := product_units fx fy
  rw [qmin_b64] at s2 s3
  have e3 : (-1074 - 2 * -1074 : Int).toNat = 1074 := by decide
  have eP : ∀ n : Nat, n * 2 ^ (1074 - i) * 2 ^ 1074 = n * 2 ^ (1074 - (i + j)) * (2 ^ j * 2 ^ (1074 - 0)) := fun n => by
    have : (2 : Nat) ^ (1074 - i) * 2 ^ 1074 = 2 ^ (1074 - (i + j)) * (2 ^ j * 2 ^ (1074 - 0)) := by
      rw [← Nat.pow_add, ← Nat.pow_add, ← Nat.pow_add]
      exact congrArg (fun z => 2 ^ z) (by omega)
    exact (Nat.mul_assoc n (2 ^ (1074 - i)) (2 ^ 1074)).trans ((congrArg (n * ·) this).trans (Nat.mul_assoc n (2 ^ (1074 - (i + j))) (2 ^ j * 2 ^ (1074 - 0))).symm)
  obtain ⟨c', q', w1, w2, w3⟩ := own_rrW (c * d) 1 (q + r) (2 * -1074) lo hi i hl hh (by omega) (by decide) (by decide) s2
    (by rw [s3, e3, zy, Nat.mul_one, eP lo]; exact Nat.mul_le_mul_right (2 ^ j * 2 ^ (1074 - 0)) x2)
    (by rw [s3, e3, zy, Nat.mul_one, eP hi]; exact Nat.mul_le_mul_right (2 ^ j * 2 ^ (1074 - 0)) x3)
  refine ⟨c', q', ?_, w2, w3⟩
  rw [show val64 (Jvm.FP.dmul x y) = _ from val64_dmul x y, x1, y1, s1]
  exact w1
theorem own_W_nonan {i lo hi : Nat} {x : UInt64} (hx : own_W i lo hi x) : Jvm.Free.Fl.NoNaN64 x := by
  obtain ⟨c, q, x1, -⟩ := hx
  rw [Jvm.Free.Fl.noNaN64_no, notNaN_iff, x1]
  simp
theorem own_WV_z {i lo hi : Nat} {x : UInt64} (hx : own_W i lo hi x) : val64 x ≠ .nan ∧ ((lo * 2 ^ (1074 - i) : Nat) : Int) ≤ zval b64 (val64 x) ∧ zval b64 (val64 x) ≤ ((hi * 2 ^ (1074 - i) : Nat) : Int) := by
  obtain ⟨c, q, x1, x2, x3⟩ := hx
  rw [x1]
  refine ⟨by simp, ?_, ?_⟩
  · show _ ≤ ((zmag b64 (.fin false c q) : Nat) : Int)
    omega
  · show ((zmag b64 (.fin false c q) : Nat) : Int) ≤ _
    omega
theorem own_V_z {k i : Nat} {n : Int} {x : UInt64} (hx : own_V k n x) (hk : k + i ≤ 1000) : val64 x ≠ .nan ∧ zval b64 (val64 x) = n * (2 ^ i : Nat) * (2 ^ (1074 - (k + i)) : Nat) := by
  obtain ⟨s, c, q, x1, x2⟩ := hx
  rw [x1]
  refine ⟨by simp, ?_⟩
  rw [x2, Int.mul_assoc, ← Int.natCast_mul, ← Nat.pow_add]
  congr 3
  omega
end OwnFW
section OwnShare
open Jvm.FP.Core
theorem own_100 : (4636737291354636288 : UInt64) = Jvm.FP.l2d 100 := by decide +kernel
theorem own_4096 : (4661225614328463360 : UInt64) = Jvm.FP.l2d 4096 := by decide +kernel
def own_num (P : Int64) : Int64 := (((100 : Int64) * P) <<< ((12 : Int32) &&& 0x3f).toInt64)
theorem own_numI (P : Int64) (h0 : 0 ≤ P.toInt) (h1 : P.toInt < 4294967296) : (own_num P).toInt = 409600 * P.toInt := by
  have a := c_lmul 100 P
  have e : (100 : Int64).toInt = 100 := by decide
  rw [e] at a
  have r := rng64 (100 * P)
  have b := c_lshl (100 * P) 12 12 (by decide)
  have r2 := rng64 (own_num P)
  have c : (own_num P).toInt = ((100 * P) <<< ((12 : Int32) &&& 0x3f).toInt64).toInt := rfl
  have e2 : (100 * P).toInt = 100 * P.toInt := by omega
  rw [e2] at b
  rw [c] at r2 ⊢
  have e3 : ((2 ^ 12 : Nat) : Int) = 4096 := by decide
  rw [e3] at b
  omega
theorem own_share (P Q : Int64) (h0 : 0 ≤ P.toInt) (h1 : P.toInt ≤ Q.toInt) (h2 : 1 ≤ Q.toInt) (h3 : Q.toInt < 4294967296) :
    NoNaN64 (FP.dmul 4636737291354636288 (FP.l2d P)) ∧ NoNaN64 (FP.ddiv (FP.dmul 4636737291354636288 (FP.l2d P)) (FP.l2d Q)) ∧ NoNaN64 (FP.dmul (FP.ddiv (FP.dmul 4636737291354636288 (FP.l2d P)) (FP.l2d Q)) 4661225614328463360) ∧
    ((own_num P % Q) = 0 → FP.dcmp (FP.dmul (FP.ddiv (FP.dmul 4636737291354636288 (FP.l2d P)) (FP.l2d Q)) 4661225614328463360) (FP.l2d (own_num P / Q)) = some .eq) ∧
    (¬ (own_num P % Q) = 0 → FP.dcmp (FP.l2d (own_num P / Q)) (FP.dmul (FP.ddiv (FP.dmul 4636737291354636288 (FP.l2d P)) (FP.l2d Q)) 4661225614328463360) = some .lt ∧ FP.dcmp (FP.dmul (FP.ddiv (FP.dmul 4636737291354636288 (FP.l2d P)) (FP.l2d Q)) 4661225614328463360) (FP.l2d (own_num P / Q + 1)) = some .lt) := by
  rw [own_100, own_4096]
  have hN := own_numI P h0 (by omega)
  have hQ1 : Q ≠ -1 := by
    intro q
    rw [q] at h2
    exact absurd h2 (by decide)
  have hk := (c_ldiv (own_num P) Q Q.toInt rfl hQ1).1 (by omega)
  have hr : (own_num P % Q).toInt = (own_num P).toInt % Q.toInt := by
    rw [Int64.toInt_mod]
    exact Int.tmod_eq_emod_of_nonneg (by omega)
  rw [hN] at hk hr
  -- as naturals
  obtain ⟨p, hp⟩ := Int.eq_ofNat_of_zero_le h0
  obtain ⟨q, hq⟩ := Int.eq_ofNat_of_zero_le (show 0 ≤ Q.toInt by omega)
  rw [hp] at hk hr hN h1
  rw [hq] at hk hr h1 h2 h3
  have hq1 : 1 ≤ q := by omega
  have hq2 : q < 4294967296 := by omega
  have hpq : p ≤ q := by omega
  have hkn : (own_num P / Q).toInt = ((409600 * p / q : Nat) : Int) := by rw [hk, Int.natCast_ediv, Int.natCast_mul]; rfl
  have hrn : (own_num P % Q).toInt = ((409600 * p % q : Nat) : Int) := by rw [hr, Int.natCast_emod, Int.natCast_mul]; rfl
  obtain ⟨k, hkk⟩ : ∃ k, k = 409600 * p / q := ⟨_, rfl⟩
  obtain ⟨r, hrr⟩ : ∃ r, r = 409600 * p % q := ⟨_, rfl⟩
  rw [← hkk] at hkn
  rw [← hrr] at hrn
  have hdm : q * k + r = 409600 * p := by rw [hkk, hrr]; exact Nat.div_add_mod _ _
  have hrq : r < q := by rw [hrr]; exact Nat.mod_lt _ (by omega)
  have hk0 : k ≤ 409600 := by
    rw [hkk]
    apply Nat.div_le_of_le_mul
    rw [Nat.mul_comm]
    exact Nat.mul_le_mul_right _ hpq
  have v100 := own_V_l2d 100 (by decide)
  have vP := own_V_l2d P (by rw [hp]; show p < _; omega)
  have vQ := own_V_l2d Q (by rw [hq]; show q < _; omega)
  have v4096 := own_V_l2d 4096 (by decide)
  have vk := own_V_l2d (own_num P / Q) (by rw [hkn]; show k < _; omega)
  have hk1 : (own_num P / Q + 1).toInt = ((k + 1 : Nat) : Int) := by
    have a := c_ladd (own_num P / Q) 1
    have e : (1 : Int64).toInt = 1 := by decide
    have r := rng64 (own_num P / Q + 1)
    rw [hkn, e] at a
    omega
  have vk1 := own_V_l2d (own_num P / Q + 1) (by rw [hk1]; show k + 1 < _; omega)
  have e100 : (100 : Int64).toInt = 100 := by decide
  have e4096 : (4096 : Int64).toInt = ((2 ^ 12 : Nat) : Int) := by decide
  rw [e100] at v100
  rw [hp] at vP
  rw [hq] at vQ
  rw [e4096] at v4096
  rw [hkn] at vk
  rw [hk1] at vk1
  have vA := own_V_mul (by decide) v100 vP (by omega)
  have hz : (own_num P % Q) = 0 ↔ r = 0 := by
    rw [← Int64.toInt_inj, hrn]
    have e : (0 : Int64).toInt = 0 := by decide
    rw [e]
    omega
  rw [hz]
  by_cases hp0 : p = 0
  · subst hp0
    have vS : own_V 0 0 (FP.ddiv (FP.dmul (FP.l2d 100) (FP.l2d P)) (FP.l2d Q)) := own_V_div0 (by simpa using vA) vQ (by omega)
    have vC := own_V_mul (by decide) vS v4096 (by simp)
    have hk0' : k = 0 := by rw [hkk]; simp
    have hr0' : r = 0 := by rw [hrr]; simp
    subst hk0'
    refine ⟨own_V_nonan vA, own_V_nonan vS, own_V_nonan vC, fun _ => ?_, fun h => absurd hr0' h⟩
    have := own_V_cmp vC vk
    rw [this]
    simp
  · have vA' : own_V 0 ((100 * p : Nat) : Int) (FP.dmul (FP.l2d 100) (FP.l2d P)) := by
      have : ((100 * p : Nat) : Int) = 100 * (p : Int) := by rw [Int.natCast_mul]; rfl
      rw [this]
      exact vA
    have pw : (2 : Nat) ^ 44 = 4096 * 4294967296 := by decide
    have key : 100 * p * 2 ^ 44 = k * 4294967296 * q + r * 4294967296 := by
      rw [pw]
      have : 100 * p * (4096 * 4294967296) = (409600 * p) * 4294967296 := by omega
      rw [this, ← hdm, Nat.add_mul, Nat.mul_comm q k, Nat.mul_right_comm]
    by_cases hr0 : r = 0
    · have wS := own_W_div (i := 32 + 12) (lo := k * 4294967296) (hi := k * 4294967296) vA' vQ (by omega) (by omega) (by decide) (by omega) (by omega) (by rw [key, hr0]; omega) (by rw [key, hr0]; omega)
      have wC := own_W_mul wS v4096 (by decide) (by omega) (by omega)
      obtain ⟨z1, z2, z3⟩ := own_WV_z wC
      obtain ⟨y1, y2⟩ := own_V_z (i := 32) vk (by decide)
      rw [Nat.zero_add] at y2
      refine ⟨own_V_nonan vA, own_W_nonan wS, own_W_nonan wC, fun _ => ?_, fun h => absurd hr0 h⟩
      apply dcmp_eq.mpr
      refine ⟨z1, y1, ?_⟩
      rw [y2]
      have pw2 : ((2 ^ 32 : Nat) : Int) = 4294967296 := by decide
      rw [pw2]
      have : ((k * 4294967296 * 2 ^ (1074 - 32) : Nat) : Int) = (k : Int) * 4294967296 * ((2 ^ (1074 - 32) : Nat) : Int) := by rw [Int.natCast_mul, Int.natCast_mul]; rfl
      rw [this] at z2 z3
      omega
    · have wS := own_W_div (i := 32 + 12) (lo := k * 4294967296 + 1) (hi := k * 4294967296 + 4294967295) vA' vQ (by omega) (by omega) (by decide) (by omega) (by omega) (by rw [key, Nat.add_mul]; omega) (by rw [key, Nat.add_mul]; omega)
      have wC := own_W_mul wS v4096 (by decide) (by omega) (by omega)
      obtain ⟨z1, z2, z3⟩ := own_WV_z wC
      obtain ⟨y1, y2⟩ := own_V_z (i := 32) vk (by decide)
      rw [Nat.zero_add] at y2
      obtain ⟨x1, x2⟩ := own_V_z (i := 32) vk1 (by decide)
      rw [Nat.zero_add] at x2
      have pw2 : ((2 ^ 32 : Nat) : Int) = 4294967296 := by decide
      rw [pw2] at y2 x2
      have hPp : (0 : Int) < ((2 ^ (1074 - 32) : Nat) : Int) := by
        have : 0 < 2 ^ (1074 - 32) := Nat.pow_pos (by decide)
        omega
      have e1 : (((k * 4294967296 + 1) * 2 ^ (1074 - 32) : Nat) : Int) = ((k : Int) * 4294967296 + 1) * ((2 ^ (1074 - 32) : Nat) : Int) := by rw [Int.natCast_mul, Int.natCast_add, Int.natCast_mul]; rfl
      have e2 : (((k * 4294967296 + 4294967295) * 2 ^ (1074 - 32) : Nat) : Int) = ((k : Int) * 4294967296 + 4294967295) * ((2 ^ (1074 - 32) : Nat) : Int) := by rw [Int.natCast_mul, Int.natCast_add, Int.natCast_mul]; rfl
      rw [e1] at z2
      rw [e2] at z3
      have e3 : ((k + 1 : Nat) : Int) * 4294967296 = (k : Int) * 4294967296 + 4294967296 := by omega
      rw [e3] at x2
      generalize ((2 ^ (1074 - 32) : Nat) : Int) = U at *
      rw [Int.add_mul] at z2 z3 x2
      refine ⟨own_V_nonan vA, own_W_nonan wS, own_W_nonan wC, fun h => absurd h hr0, fun _ => ⟨?_, ?_⟩⟩
      · apply dcmp_lt.mpr
        refine ⟨y1, z1, ?_⟩
        omega
      · apply dcmp_lt.mpr
        refine ⟨z1, x1, ?_⟩
        omega
end OwnShare
def own_pl (a : Int64) (f : Int32) : Int64 := if (f &&& (3 : Int32)) = (0 : Int32) then (0 : Int64) else (a &&& (4294967295 : Int64))
def own_pr (f : Int32) (pl t : Int64) : Int64 := if (f &&& (4 : Int32)) = (0 : Int32) then t else pl
theorem own_plI (a : Int64) (f : Int32) : 0 ≤ (own_pl a f).toInt ∧ (own_pl a f).toInt < 4294967296 := by
  unfold own_pl
  split
  · decide
  · have h := c_maskL a 4294967295 32 (by decide) (by decide)
    have e : ((2 ^ 32 : Nat) : Int) = 4294967296 := by decide
    rw [e] at h
    omega
theorem own_plus (pl : Int64) (h0 : 0 ≤ pl.toInt) (h1 : pl.toInt < 4294967296) : (pl + (1 : Int64)).toInt = pl.toInt + 1 := by
  have a := c_ladd pl 1
  have e : (1 : Int64).toInt = 1 := by decide
  have r := rng64 (pl + 1)
  omega
theorem own_nzp (pl : Int64) (h0 : 0 ≤ pl.toInt) (h1 : pl.toInt < 4294967296) : (pl + (1 : Int64)) ≠ 0 := by
  intro q
  have := congrArg Int64.toInt q
  rw [own_plus pl h0 h1] at this
  have e : (0 : Int64).toInt = 0 := by decide
  omega
theorem own_prI (f : Int32) (b pl t : Int64) (h0 : 0 ≤ pl.toInt) (h1 : pl.toInt < 4294967296) (ht : t = ((b &&& (9223372036854775807 : Int64)) % (pl + (1 : Int64)))) : 0 ≤ (own_pr f pl t).toInt ∧ (own_pr f pl t).toInt ≤ pl.toInt := by
  unfold own_pr
  split
  · have h := c_maskL b 9223372036854775807 63 (by decide) (by decide)
    have e : ((2 ^ 63 : Nat) : Int) = 9223372036854775808 := by decide
    rw [e] at h
    have hb : 0 ≤ (b &&& (9223372036854775807 : Int64)).toInt := by omega
    rw [ht, Int64.toInt_mod, Int.tmod_eq_emod_of_nonneg hb, own_plus pl h0 h1]
    have p : 0 < pl.toInt + 1 := by omega
    have := Int.emod_nonneg (b &&& (9223372036854775807 : Int64)).toInt (show pl.toInt + 1 ≠ 0 by omega)
    have := Int.emod_lt_of_pos (b &&& (9223372036854775807 : Int64)).toInt p
    omega
  · omega
theorem own_pos1 (Q : Int64) (h0 : 0 ≤ Q.toInt) (h : ¬ Q = 0) : 1 ≤ Q.toInt := by
  rw [← Int64.toInt_inj] at h
  have e : (0 : Int64).toInt = 0 := by decide
  omega
theorem d2_0 : decode jdk_30_method_1_code 0 = .ok (.aload_n 0, 1) := by decide +kernel
theorem d2_1 : decode jdk_30_method_1_code 1 = .ok (.invokespecial 1, 3) := by decide +kernel
theorem d2_4 : decode jdk_30_method_1_code 4 = .ok (.return_, 1) := by decide +kernel
theorem pn_java_lang_Record : plainName "java/lang/Record" = true := by first | (simp [plainName, overriddenIn]; done) | decide +kernel
theorem ef_rm2 (m : MethodId) (a0 : Addr) : entryFrame m #[(.ref a0)] 1 = (mkF m 0 #[.val (.ref a0)] []) := by first | (simp [entryFrame, mkF, argsToLocals, Value.category]; done) | rfl
def Q2 (Z : State) (a0 : Addr) (h0 : Heap) (n0 : Nat) (v : Option Value) (h : Heap) (L : List Loc) : Prop := v = none ∧ Fr n0 L ∧ h = h0
set_option maxRecDepth 65536 in
set_option maxHeartbeats 40000000 in
theorem rm2 (l : Launch) (Z : State) (aa : Array Value) (hw : ∀ d ∈ tables_1, d.before aa Z = true) (ws : List Jvm.Cond) (a0 : Addr) (h0 : Heap) (n0 : Nat) (Z0 : n0 ≤ h0.size) :
    MetFree l (⟨"java/lang/Record", "<init>", "()V"⟩ : MethodName) (head1 (Jvm.Cond.code (⟨"java/lang/Record", "<init>", "()V"⟩ : MethodName) jdk_30_method_1_code 1 none :: ws) ({ frames := 1, cells := 0, slots := 0, locals := 12 } : Room)) (fun a U => a = #[(.ref a0)] ∧ Z.Warmed39 U.vm ∧ U.heap = h0) (fun _ _ _ _ _ => True) (fun _ U o U' => ∃ v L, o = .returned v ∧ Q2 Z a0 h0 n0 v U'.heap L ∧ FrameEnd U o U' L ({ frames := 1, cells := 0, slots := 0, locals := 12 } : Room).cells ({ frames := 1, cells := 0, slots := 0, locals := 12 } : Room).slots) := by
  refine MetFree.of_bodySF (plainFor_of_name pn_java_lang_Record) hisR ?_
  intro p e s m args below meth c s₁ Bd hml0 hP hK
  obtain ⟨rfl, hZ, hh⟩ := hP
  have hx := Bd.exec
  have hby := Bd.bytes
  have hml : c.maxLocals = 1 := hml0
  have hown : s.vm.findClass "java/lang/Record" = some m.cls := findClass_of_methodNamed Bd.named
  have hnm := (name_of_methodNamed Bd.named Bd.method).1
  have X0 : Stand p l e ({ frames := 1, cells := 0, slots := 0, locals := 12 } : Room) s m #[(.ref a0)] below meth c s₁ [] 0 0 := Stand.of_body Bd
  have e0 : s₁.heap = h0 := by rw [← hh, Bd.state]; rfl
  have N0 := Fr.nil n0
  obtain ⟨G0, hG0⟩ : ∃ G, G = s₁.setTop (entryFrame m #[(.ref a0)] 1) := ⟨_, rfl⟩
  have K0 : ∀ t, Steps p.tables e below (s₁.setTop (mkF m 0 #[.val (.ref a0)] [])) t → Steps p.tables e below G0 t := fun t k => by rw [hG0]; exact castTop (ef_rm2 m a0) k
  have K1 : ∀ t, Steps p.tables e below (s₁.setTop (mkF m 1 #[.val (.ref a0)] [(.ref a0)])) t → Steps p.tables e below G0 t := by
    intro t kt
    refine K0 t ?_
    refine XS.aloadN X0.here hx rfl (hb hby d2_0) rfl rfl ?_
    show Steps p.tables e below (s₁.setTop (mkF m 1 #[.val (.ref a0)] [(.ref a0)])) _
    exact kt
  obtain ⟨T2, X2, e2, st2⟩ := initO X0 hx hZ hown (hw _ (List.mem_of_getElem? (i := 13) rfl)) (hw _ (List.mem_of_getElem? (i := 14) rfl)) (hw _ (List.mem_of_getElem? (i := 15) rfl)) e0 (g := (mkF m 1 #[.val (.ref a0)] [(.ref a0)])) rfl (by rw [hml]; rfl) rfl (hb hby d2_1) (by decide) (W := 0) (by show 2 * 0 + _ ≤ _; exact Nat.le_of_eq rfl) (by decide)
  have K2 : ∀ t, Steps p.tables e below (T2.setTop (mkF m 4 #[.val (.ref a0)] [])) t → Steps p.tables e below G0 t := fun t kt => K1 t (st2 _ kt)
  obtain ⟨fs, hr, hrun, hended, hW, hsame⟩ := X2.leave (v := none) (fun _ => rfl)
  refine ⟨_, _, ?_, hrun, hended, _, _, rfl, ?_, ⟨_, rfl⟩, hW, hsame.mono (by decide) (by decide)⟩
  · rw [← hG0]
    refine K2 _ ?_
    exact X2.returnOut hx Bd.returns (hb hby d2_4) hr
  · show Q2 Z a0 h0 n0 _ T2.heap _
    rw [e2]
    exact ⟨rfl, N0, rfl⟩
theorem d1_0 : decode prog_45_method_1_code 0 = .ok (.aload_n 0, 1) := by decide +kernel
theorem d1_1 : decode prog_45_method_1_code 1 = .ok (.invokespecial 1, 3) := by decide +kernel
theorem d1_4 : decode prog_45_method_1_code 4 = .ok (.aload_n 0, 1) := by decide +kernel
theorem d1_5 : decode prog_45_method_1_code 5 = .ok (.lload_n 1, 1) := by decide +kernel
theorem d1_6 : decode prog_45_method_1_code 6 = .ok (.putfield 7, 3) := by decide +kernel
theorem d1_9 : decode prog_45_method_1_code 9 = .ok (.aload_n 0, 1) := by decide +kernel
theorem d1_10 : decode prog_45_method_1_code 10 = .ok (.lload_n 3, 1) := by decide +kernel
theorem d1_11 : decode prog_45_method_1_code 11 = .ok (.putfield 13, 3) := by decide +kernel
theorem d1_14 : decode prog_45_method_1_code 14 = .ok (.aload_n 0, 1) := by decide +kernel
theorem d1_15 : decode prog_45_method_1_code 15 = .ok (.lload 5, 2) := by decide +kernel
theorem d1_17 : decode prog_45_method_1_code 17 = .ok (.putfield 16, 3) := by decide +kernel
theorem d1_20 : decode prog_45_method_1_code 20 = .ok (.aload_n 0, 1) := by decide +kernel
theorem d1_21 : decode prog_45_method_1_code 21 = .ok (.lload 7, 2) := by decide +kernel
theorem d1_23 : decode prog_45_method_1_code 23 = .ok (.putfield 19, 3) := by decide +kernel
theorem d1_26 : decode prog_45_method_1_code 26 = .ok (.aload_n 0, 1) := by decide +kernel
theorem d1_27 : decode prog_45_method_1_code 27 = .ok (.lload 9, 2) := by decide +kernel
theorem d1_29 : decode prog_45_method_1_code 29 = .ok (.putfield 22, 3) := by decide +kernel
theorem d1_32 : decode prog_45_method_1_code 32 = .ok (.aload_n 0, 1) := by decide +kernel
theorem d1_33 : decode prog_45_method_1_code 33 = .ok (.lload 11, 2) := by decide +kernel
theorem d1_35 : decode prog_45_method_1_code 35 = .ok (.putfield 25, 3) := by decide +kernel
theorem d1_38 : decode prog_45_method_1_code 38 = .ok (.aload_n 0, 1) := by decide +kernel
theorem d1_39 : decode prog_45_method_1_code 39 = .ok (.lload 13, 2) := by decide +kernel
theorem d1_41 : decode prog_45_method_1_code 41 = .ok (.putfield 28, 3) := by decide +kernel
theorem d1_44 : decode prog_45_method_1_code 44 = .ok (.aload_n 0, 1) := by decide +kernel
theorem d1_45 : decode prog_45_method_1_code 45 = .ok (.lload 15, 2) := by decide +kernel
theorem d1_47 : decode prog_45_method_1_code 47 = .ok (.putfield 31, 3) := by decide +kernel
theorem d1_50 : decode prog_45_method_1_code 50 = .ok (.aload_n 0, 1) := by decide +kernel
theorem d1_51 : decode prog_45_method_1_code 51 = .ok (.lload 17, 2) := by decide +kernel
theorem d1_53 : decode prog_45_method_1_code 53 = .ok (.putfield 34, 3) := by decide +kernel
theorem d1_56 : decode prog_45_method_1_code 56 = .ok (.aload_n 0, 1) := by decide +kernel
theorem d1_57 : decode prog_45_method_1_code 57 = .ok (.lload 19, 2) := by decide +kernel
theorem d1_59 : decode prog_45_method_1_code 59 = .ok (.putfield 37, 3) := by decide +kernel
theorem d1_62 : decode prog_45_method_1_code 62 = .ok (.aload_n 0, 1) := by decide +kernel
theorem d1_63 : decode prog_45_method_1_code 63 = .ok (.lload 21, 2) := by decide +kernel
theorem d1_65 : decode prog_45_method_1_code 65 = .ok (.putfield 40, 3) := by decide +kernel
theorem d1_68 : decode prog_45_method_1_code 68 = .ok (.aload_n 0, 1) := by decide +kernel
theorem d1_69 : decode prog_45_method_1_code 69 = .ok (.dload 23, 2) := by decide +kernel
theorem d1_71 : decode prog_45_method_1_code 71 = .ok (.putfield 43, 3) := by decide +kernel
theorem d1_74 : decode prog_45_method_1_code 74 = .ok (.return_, 1) := by decide +kernel
theorem pn_com_example_horarium_horarium_engine_CampusScore : plainName "com/example/horarium/horarium/engine/CampusScore" = true := by first | (simp [plainName, overriddenIn]; done) | decide +kernel
theorem pd_PQV : parseMethodDescriptor "()V" = some ⟨[], none⟩ := by decide +kernel
theorem ef_rm1 (m : MethodId) (a0 : Addr) (x1 : Int64) (x2 : Int64) (x3 : Int64) (x4 : Int64) (x5 : Int64) (x6 : Int64) (x7 : Int64) (x8 : Int64) (x9 : Int64) (x10 : Int64) (x11 : Int64) (x12 : UInt64) : entryFrame m #[(.ref a0), (.long x1), (.long x2), (.long x3), (.long x4), (.long x5), (.long x6), (.long x7), (.long x8), (.long x9), (.long x10), (.long x11), (.double x12)] 25 = (mkF m 0 #[.val (.ref a0), .val (.long x1), .second, .val (.long x2), .second, .val (.long x3), .second, .val (.long x4), .second, .val (.long x5), .second, .val (.long x6), .second, .val (.long x7), .second, .val (.long x8), .second, .val (.long x9), .second, .val (.long x10), .second, .val (.long x11), .second, .val (.double x12), .second] []) := by first | (simp [entryFrame, mkF, argsToLocals, Value.category]; done) | rfl
def Q1 (Z : State) (a0 : Addr) (x1 : Int64) (x2 : Int64) (x3 : Int64) (x4 : Int64) (x5 : Int64) (x6 : Int64) (x7 : Int64) (x8 : Int64) (x9 : Int64) (x10 : Int64) (x11 : Int64) (x12 : UInt64) (u_lessons : Value) (u_roomClashes : Value) (u_teacherClashes : Value) (u_curriculumClashes : Value) (u_unavailable : Value) (u_unqualified : Value) (u_splitTeacher : Value) (u_wrongRoom : Value) (u_wrongShift : Value) (u_placed : Value) (u_preferred : Value) (u_loadStddev : Value) (h0 : Heap) (n0 : Nat) (v : Option Value) (h : Heap) (L : List Loc) : Prop := v = none ∧ Fr n0 L ∧ Keep h0 h [a0] ∧ Exa Z h a0 "com/example/horarium/horarium/engine/CampusScore" ∧ Fld Z h a0 "com/example/horarium/horarium/engine/CampusScore" "lessons" "J" (.long x1) ∧ Fld Z h a0 "com/example/horarium/horarium/engine/CampusScore" "roomClashes" "J" (.long x2) ∧ Fld Z h a0 "com/example/horarium/horarium/engine/CampusScore" "teacherClashes" "J" (.long x3) ∧ Fld Z h a0 "com/example/horarium/horarium/engine/CampusScore" "curriculumClashes" "J" (.long x4) ∧ Fld Z h a0 "com/example/horarium/horarium/engine/CampusScore" "unavailable" "J" (.long x5) ∧ Fld Z h a0 "com/example/horarium/horarium/engine/CampusScore" "unqualified" "J" (.long x6) ∧ Fld Z h a0 "com/example/horarium/horarium/engine/CampusScore" "splitTeacher" "J" (.long x7) ∧ Fld Z h a0 "com/example/horarium/horarium/engine/CampusScore" "wrongRoom" "J" (.long x8) ∧ Fld Z h a0 "com/example/horarium/horarium/engine/CampusScore" "wrongShift" "J" (.long x9) ∧ Fld Z h a0 "com/example/horarium/horarium/engine/CampusScore" "placed" "J" (.long x10) ∧ Fld Z h a0 "com/example/horarium/horarium/engine/CampusScore" "preferred" "J" (.long x11) ∧ Fld Z h a0 "com/example/horarium/horarium/engine/CampusScore" "loadStddev" "D" (.double x12)
set_option maxRecDepth 65536 in
set_option maxHeartbeats 40000000 in
theorem rm1 (l : Launch) (Z : State) (aa : Array Value) (hw : ∀ d ∈ tables_1, d.before aa Z = true) (ws : List Jvm.Cond) (a0 : Addr) (x1 : Int64) (x2 : Int64) (x3 : Int64) (x4 : Int64) (x5 : Int64) (x6 : Int64) (x7 : Int64) (x8 : Int64) (x9 : Int64) (x10 : Int64) (x11 : Int64) (x12 : UInt64) (u_lessons : Value) (u_roomClashes : Value) (u_teacherClashes : Value) (u_curriculumClashes : Value) (u_unavailable : Value) (u_unqualified : Value) (u_splitTeacher : Value) (u_wrongRoom : Value) (u_wrongShift : Value) (u_placed : Value) (u_preferred : Value) (u_loadStddev : Value) (h0 : Heap) (n0 : Nat) (Z0 : n0 ≤ h0.size) (gn : n0 ≤ a0) (E0 : Exa Z h0 a0 "com/example/horarium/horarium/engine/CampusScore") (F_lessons : Fld Z h0 a0 "com/example/horarium/horarium/engine/CampusScore" "lessons" "J" u_lessons) (F_roomClashes : Fld Z h0 a0 "com/example/horarium/horarium/engine/CampusScore" "roomClashes" "J" u_roomClashes) (F_teacherClashes : Fld Z h0 a0 "com/example/horarium/horarium/engine/CampusScore" "teacherClashes" "J" u_teacherClashes) (F_curriculumClashes : Fld Z h0 a0 "com/example/horarium/horarium/engine/CampusScore" "curriculumClashes" "J" u_curriculumClashes) (F_unavailable : Fld Z h0 a0 "com/example/horarium/horarium/engine/CampusScore" "unavailable" "J" u_unavailable) (F_unqualified : Fld Z h0 a0 "com/example/horarium/horarium/engine/CampusScore" "unqualified" "J" u_unqualified) (F_splitTeacher : Fld Z h0 a0 "com/example/horarium/horarium/engine/CampusScore" "splitTeacher" "J" u_splitTeacher) (F_wrongRoom : Fld Z h0 a0 "com/example/horarium/horarium/engine/CampusScore" "wrongRoom" "J" u_wrongRoom) (F_wrongShift : Fld Z h0 a0 "com/example/horarium/horarium/engine/CampusScore" "wrongShift" "J" u_wrongShift) (F_placed : Fld Z h0 a0 "com/example/horarium/horarium/engine/CampusScore" "placed" "J" u_placed) (F_preferred : Fld Z h0 a0 "com/example/horarium/horarium/engine/CampusScore" "preferred" "J" u_preferred) (F_loadStddev : Fld Z h0 a0 "com/example/horarium/horarium/engine/CampusScore" "loadStddev" "D" u_loadStddev) :
    MetFree l (⟨"com/example/horarium/horarium/engine/CampusScore", "<init>", "(JJJJJJJJJJJD)V"⟩ : MethodName) (head1 (Jvm.Cond.code (⟨"com/example/horarium/horarium/engine/CampusScore", "<init>", "(JJJJJJJJJJJD)V"⟩ : MethodName) prog_45_method_1_code 25 none :: ws) ({ frames := 2, cells := 0, slots := 0, locals := 24 } : Room)) (fun a U => a = #[(.ref a0), (.long x1), (.long x2), (.long x3), (.long x4), (.long x5), (.long x6), (.long x7), (.long x8), (.long x9), (.long x10), (.long x11), (.double x12)] ∧ Z.Warmed39 U.vm ∧ U.heap = h0) (fun _ _ _ _ _ => True) (fun _ U o U' => ∃ v L, o = .returned v ∧ Q1 Z a0 x1 x2 x3 x4 x5 x6 x7 x8 x9 x10 x11 x12 u_lessons u_roomClashes u_teacherClashes u_curriculumClashes u_unavailable u_unqualified u_splitTeacher u_wrongRoom u_wrongShift u_placed u_preferred u_loadStddev h0 n0 v U'.heap L ∧ FrameEnd U o U' L ({ frames := 2, cells := 0, slots := 0, locals := 24 } : Room).cells ({ frames := 2, cells := 0, slots := 0, locals := 24 } : Room).slots) := by
  refine MetFree.of_bodySF (plainFor_of_name pn_com_example_horarium_horarium_engine_CampusScore) hisR ?_
  intro p e s m args below meth c s₁ Bd hml0 hP hK
  obtain ⟨rfl, hZ, hh⟩ := hP
  have hx := Bd.exec
  have hby := Bd.bytes
  have hml : c.maxLocals = 25 := hml0
  have hown : s.vm.findClass "com/example/horarium/horarium/engine/CampusScore" = some m.cls := findClass_of_methodNamed Bd.named
  have hnm := (name_of_methodNamed Bd.named Bd.method).1
  have X0 : Stand p l e ({ frames := 2, cells := 0, slots := 0, locals := 24 } : Room) s m #[(.ref a0), (.long x1), (.long x2), (.long x3), (.long x4), (.long x5), (.long x6), (.long x7), (.long x8), (.long x9), (.long x10), (.long x11), (.double x12)] below meth c s₁ [] 0 0 := Stand.of_body Bd
  have e0 : s₁.heap = h0 := by rw [← hh, Bd.state]; rfl
  have N0 := Fr.nil n0
  obtain ⟨G0, hG0⟩ : ∃ G, G = s₁.setTop (entryFrame m #[(.ref a0), (.long x1), (.long x2), (.long x3), (.long x4), (.long x5), (.long x6), (.long x7), (.long x8), (.long x9), (.long x10), (.long x11), (.double x12)] 25) := ⟨_, rfl⟩
  have K0 : ∀ t, Steps p.tables e below (s₁.setTop (mkF m 0 #[.val (.ref a0), .val (.long x1), .second, .val (.long x2), .second, .val (.long x3), .second, .val (.long x4), .second, .val (.long x5), .second, .val (.long x6), .second, .val (.long x7), .second, .val (.long x8), .second, .val (.long x9), .second, .val (.long x10), .second, .val (.long x11), .second, .val (.double x12), .second] [])) t → Steps p.tables e below G0 t := fun t k => by rw [hG0]; exact castTop (ef_rm1 m a0 x1 x2 x3 x4 x5 x6 x7 x8 x9 x10 x11 x12) k
  have KP1 := Keep.refl h0 [a0]
  have K2 : ∀ t, Steps p.tables e below (s₁.setTop (mkF m 1 #[.val (.ref a0), .val (.long x1), .second, .val (.long x2), .second, .val (.long x3), .second, .val (.long x4), .second, .val (.long x5), .second, .val (.long x6), .second, .val (.long x7), .second, .val (.long x8), .second, .val (.long x9), .second, .val (.long x10), .second, .val (.long x11), .second, .val (.double x12), .second] [(.ref a0)])) t → Steps p.tables e below G0 t := by
    intro t kt
    refine K0 t ?_
    refine XS.aloadN X0.here hx rfl (hb hby d1_0) rfl rfl ?_
    show Steps p.tables e below (s₁.setTop (mkF m 1 #[.val (.ref a0), .val (.long x1), .second, .val (.long x2), .second, .val (.long x3), .second, .val (.long x4), .second, .val (.long x5), .second, .val (.long x6), .second, .val (.long x7), .second, .val (.long x8), .second, .val (.long x9), .second, .val (.long x10), .second, .val (.long x11), .second, .val (.double x12), .second] [(.ref a0)])) _
    exact kt
  obtain ⟨_, _, ⟨T3, L3, k3, n3⟩, -, X3, ⟨Lc3, hQ3, l3, y3, z3⟩, st3⟩ := X0.specialBack hx (y := (⟨"java/lang/Record", "<init>", "()V"⟩ : MethodName)) rfl hown (mvT hZ (hw _ (List.mem_of_getElem? (i := 8) rfl))) (mvT hZ (hw _ (List.mem_of_getElem? (i := 9) rfl))) (mvT hZ (hw _ (List.mem_of_getElem? (i := 12) rfl))) (by decide) (backOf (W := 0) (rm2 l Z aa hw [] (a0)  h0 n0 Z0 ) hZ (hw _ (List.mem_of_getElem? (i := 12) rfl)) (hw _ (List.mem_of_getElem? (i := 11) rfl)) (by decide) (by decide)) (g := (mkF m 1 #[.val (.ref a0), .val (.long x1), .second, .val (.long x2), .second, .val (.long x3), .second, .val (.long x4), .second, .val (.long x5), .second, .val (.long x6), .second, .val (.long x7), .second, .val (.long x8), .second, .val (.long x9), .second, .val (.long x10), .second, .val (.long x11), .second, .val (.double x12), .second] [(.ref a0)])) rfl (by rw [hml]; rfl) (Steps.refl _) (a := a0) (argsL := []) (rest := []) (lenOf pd_PQV rfl) rfl (by show 2 * 0 + _ ≤ _; exact Nat.le_of_eq rfl) (hb hby d1_1) (fun _ _ => ⟨rfl, e0, (by decide : 0 + 0 ≤ _), (by decide : 0 + 0 ≤ _)⟩)
  dsimp only [Pt.U, Pt.locs, Pt.cells, Pt.slots] at X3 l3 y3 z3 st3 hQ3
  subst l3 y3 z3
  obtain ⟨rfl, N3q, e3⟩ := hQ3
  have N3 := Fr.app N0 N3q
  have K3 : ∀ t, Steps p.tables e below (T3.setTop (mkF m 4 #[.val (.ref a0), .val (.long x1), .second, .val (.long x2), .second, .val (.long x3), .second, .val (.long x4), .second, .val (.long x5), .second, .val (.long x6), .second, .val (.long x7), .second, .val (.long x8), .second, .val (.long x9), .second, .val (.long x10), .second, .val (.long x11), .second, .val (.double x12), .second] [])) t → Steps p.tables e below G0 t := fun t kt => K2 t (st3.trans kt)
  have K4 : ∀ t, Steps p.tables e below (T3.setTop (mkF m 6 #[.val (.ref a0), .val (.long x1), .second, .val (.long x2), .second, .val (.long x3), .second, .val (.long x4), .second, .val (.long x5), .second, .val (.long x6), .second, .val (.long x7), .second, .val (.long x8), .second, .val (.long x9), .second, .val (.long x10), .second, .val (.long x11), .second, .val (.double x12), .second] [(.long x1), (.ref a0)])) t → Steps p.tables e below G0 t := by
    intro t kt
    refine K3 t ?_
    refine XS.aloadN X3.here hx rfl (hb hby d1_4) rfl rfl ?_
    show Steps p.tables e below (T3.setTop (mkF m 5 #[.val (.ref a0), .val (.long x1), .second, .val (.long x2), .second, .val (.long x3), .second, .val (.long x4), .second, .val (.long x5), .second, .val (.long x6), .second, .val (.long x7), .second, .val (.long x8), .second, .val (.long x9), .second, .val (.long x10), .second, .val (.long x11), .second, .val (.double x12), .second] [(.ref a0)])) _
    refine XS.lloadN X3.here hx rfl (hb hby d1_5) rfl ?_
    show Steps p.tables e below (T3.setTop (mkF m 6 #[.val (.ref a0), .val (.long x1), .second, .val (.long x2), .second, .val (.long x3), .second, .val (.long x4), .second, .val (.long x5), .second, .val (.long x6), .second, .val (.long x7), .second, .val (.long x8), .second, .val (.long x9), .second, .val (.long x10), .second, .val (.long x11), .second, .val (.double x12), .second] [(.long x1), (.ref a0)])) _
    exact kt
  obtain ⟨T5, h5, X5, e5, W5, st5⟩ := putF X3 hx hZ hown (host := "") (Or.inl (hw _ (List.mem_of_getElem? (i := 16) rfl))) Via.refl e3 F_lessons E0 (Or.inr ⟨(hw _ (List.mem_of_getElem? (i := 17) rfl)), rfl, hnm⟩) (hw _ (List.mem_of_getElem? (i := 3) rfl)) (ty := .long) (by decide) rfl rfl (g := (mkF m 6 #[.val (.ref a0), .val (.long x1), .second, .val (.long x2), .second, .val (.long x3), .second, .val (.long x4), .second, .val (.long x5), .second, .val (.long x6), .second, .val (.long x7), .second, .val (.long x8), .second, .val (.long x9), .second, .val (.long x10), .second, .val (.long x11), .second, .val (.double x12), .second] [(.long x1), (.ref a0)])) rfl rfl (hb hby d1_6)
  have K5 : ∀ t, Steps p.tables e below (T5.setTop (mkF m 9 #[.val (.ref a0), .val (.long x1), .second, .val (.long x2), .second, .val (.long x3), .second, .val (.long x4), .second, .val (.long x5), .second, .val (.long x6), .second, .val (.long x7), .second, .val (.long x8), .second, .val (.long x9), .second, .val (.long x10), .second, .val (.long x11), .second, .val (.double x12), .second] [])) t → Steps p.tables e below G0 t := fun t kt => K4 t (st5 _ kt)
  have Fw5 := (F_lessons).same W5
  have N5 := Fr.snoc X5 N3 gn
  have Z5 : n0 ≤ h5.size := Nat.le_trans Z0 (Keep.of_wr W5).1
  have KP5 := KP1.wr W5 (Or.inl (List.mem_of_getElem? (i := 0) rfl))
  have K6 : ∀ t, Steps p.tables e below (T5.setTop (mkF m 11 #[.val (.ref a0), .val (.long x1), .second, .val (.long x2), .second, .val (.long x3), .second, .val (.long x4), .second, .val (.long x5), .second, .val (.long x6), .second, .val (.long x7), .second, .val (.long x8), .second, .val (.long x9), .second, .val (.long x10), .second, .val (.long x11), .second, .val (.double x12), .second] [(.long x2), (.ref a0)])) t → Steps p.tables e below G0 t := by
    intro t kt
    refine K5 t ?_
    refine XS.aloadN X5.here hx rfl (hb hby d1_9) rfl rfl ?_
    show Steps p.tables e below (T5.setTop (mkF m 10 #[.val (.ref a0), .val (.long x1), .second, .val (.long x2), .second, .val (.long x3), .second, .val (.long x4), .second, .val (.long x5), .second, .val (.long x6), .second, .val (.long x7), .second, .val (.long x8), .second, .val (.long x9), .second, .val (.long x10), .second, .val (.long x11), .second, .val (.double x12), .second] [(.ref a0)])) _
    refine XS.lloadN X5.here hx rfl (hb hby d1_10) rfl ?_
    show Steps p.tables e below (T5.setTop (mkF m 11 #[.val (.ref a0), .val (.long x1), .second, .val (.long x2), .second, .val (.long x3), .second, .val (.long x4), .second, .val (.long x5), .second, .val (.long x6), .second, .val (.long x7), .second, .val (.long x8), .second, .val (.long x9), .second, .val (.long x10), .second, .val (.long x11), .second, .val (.double x12), .second] [(.long x2), (.ref a0)])) _
    exact kt
  have f7 := (F_roomClashes.other W5 (Or.inr (slot_ne (Or.inr (hw _ (List.mem_of_getElem? (i := 19) rfl))) (Or.inr (hw _ (List.mem_of_getElem? (i := 17) rfl))) (by decide) (t := .long) (t' := .long) (by decide) (by decide))))
  have f8 := (E0.wr W5)
  obtain ⟨T9, h9, X9, e9, W9, st9⟩ := putF X5 hx hZ hown (host := "") (Or.inl (hw _ (List.mem_of_getElem? (i := 18) rfl))) Via.refl e5 f7 f8 (Or.inr ⟨(hw _ (List.mem_of_getElem? (i := 19) rfl)), rfl, hnm⟩) (hw _ (List.mem_of_getElem? (i := 3) rfl)) (ty := .long) (by decide) rfl rfl (g := (mkF m 11 #[.val (.ref a0), .val (.long x1), .second, .val (.long x2), .second, .val (.long x3), .second, .val (.long x4), .second, .val (.long x5), .second, .val (.long x6), .second, .val (.long x7), .second, .val (.long x8), .second, .val (.long x9), .second, .val (.long x10), .second, .val (.long x11), .second, .val (.double x12), .second] [(.long x2), (.ref a0)])) rfl rfl (hb hby d1_11)
  have K9 : ∀ t, Steps p.tables e below (T9.setTop (mkF m 14 #[.val (.ref a0), .val (.long x1), .second, .val (.long x2), .second, .val (.long x3), .second, .val (.long x4), .second, .val (.long x5), .second, .val (.long x6), .second, .val (.long x7), .second, .val (.long x8), .second, .val (.long x9), .second, .val (.long x10), .second, .val (.long x11), .second, .val (.double x12), .second] [])) t → Steps p.tables e below G0 t := fun t kt => K6 t (st9 _ kt)
  have Fw9 := (f7).same W9
  have N9 := Fr.snoc X9 N5 gn
  have Z9 : n0 ≤ h9.size := Nat.le_trans Z5 (Keep.of_wr W9).1
  have KP9 := KP5.wr W9 (Or.inl (List.mem_of_getElem? (i := 0) rfl))
  have K10 : ∀ t, Steps p.tables e below (T9.setTop (mkF m 17 #[.val (.ref a0), .val (.long x1), .second, .val (.long x2), .second, .val (.long x3), .second, .val (.long x4), .second, .val (.long x5), .second, .val (.long x6), .second, .val (.long x7), .second, .val (.long x8), .second, .val (.long x9), .second, .val (.long x10), .second, .val (.long x11), .second, .val (.double x12), .second] [(.long x3), (.ref a0)])) t → Steps p.tables e below G0 t := by
    intro t kt
    refine K9 t ?_
    refine XS.aloadN X9.here hx rfl (hb hby d1_14) rfl rfl ?_
    show Steps p.tables e below (T9.setTop (mkF m 15 #[.val (.ref a0), .val (.long x1), .second, .val (.long x2), .second, .val (.long x3), .second, .val (.long x4), .second, .val (.long x5), .second, .val (.long x6), .second, .val (.long x7), .second, .val (.long x8), .second, .val (.long x9), .second, .val (.long x10), .second, .val (.long x11), .second, .val (.double x12), .second] [(.ref a0)])) _
    refine XS.lload X9.here hx rfl (hb hby d1_15) rfl ?_
    show Steps p.tables e below (T9.setTop (mkF m 17 #[.val (.ref a0), .val (.long x1), .second, .val (.long x2), .second, .val (.long x3), .second, .val (.long x4), .second, .val (.long x5), .second, .val (.long x6), .second, .val (.long x7), .second, .val (.long x8), .second, .val (.long x9), .second, .val (.long x10), .second, .val (.long x11), .second, .val (.double x12), .second] [(.long x3), (.ref a0)])) _
    exact kt
  have f11 := ((F_teacherClashes.other W5 (Or.inr (slot_ne (Or.inr (hw _ (List.mem_of_getElem? (i := 21) rfl))) (Or.inr (hw _ (List.mem_of_getElem? (i := 17) rfl))) (by decide) (t := .long) (t' := .long) (by decide) (by decide)))).other W9 (Or.inr (slot_ne (Or.inr (hw _ (List.mem_of_getElem? (i := 21) rfl))) (Or.inr (hw _ (List.mem_of_getElem? (i := 19) rfl))) (by decide) (t := .long) (t' := .long) (by decide) (by decide))))
  have f12 := (f8.wr W9)
  obtain ⟨T13, h13, X13, e13, W13, st13⟩ := putF X9 hx hZ hown (host := "") (Or.inl (hw _ (List.mem_of_getElem? (i := 20) rfl))) Via.refl e9 f11 f12 (Or.inr ⟨(hw _ (List.mem_of_getElem? (i := 21) rfl)), rfl, hnm⟩) (hw _ (List.mem_of_getElem? (i := 3) rfl)) (ty := .long) (by decide) rfl rfl (g := (mkF m 17 #[.val (.ref a0), .val (.long x1), .second, .val (.long x2), .second, .val (.long x3), .second, .val (.long x4), .second, .val (.long x5), .second, .val (.long x6), .second, .val (.long x7), .second, .val (.long x8), .second, .val (.long x9), .second, .val (.long x10), .second, .val (.long x11), .second, .val (.double x12), .second] [(.long x3), (.ref a0)])) rfl rfl (hb hby d1_17)
  have K13 : ∀ t, Steps p.tables e below (T13.setTop (mkF m 20 #[.val (.ref a0), .val (.long x1), .second, .val (.long x2), .second, .val (.long x3), .second, .val (.long x4), .second, .val (.long x5), .second, .val (.long x6), .second, .val (.long x7), .second, .val (.long x8), .second, .val (.long x9), .second, .val (.long x10), .second, .val (.long x11), .second, .val (.double x12), .second] [])) t → Steps p.tables e below G0 t := fun t kt => K10 t (st13 _ kt)
  have Fw13 := (f11).same W13
  have N13 := Fr.snoc X13 N9 gn
  have Z13 : n0 ≤ h13.size := Nat.le_trans Z9 (Keep.of_wr W13).1
  have KP13 := KP9.wr W13 (Or.inl (List.mem_of_getElem? (i := 0) rfl))
  have K14 : ∀ t, Steps p.tables e below (T13.setTop (mkF m 23 #[.val (.ref a0), .val (.long x1), .second, .val (.long x2), .second, .val (.long x3), .second, .val (.long x4), .second, .val (.long x5), .second, .val (.long x6), .second, .val (.long x7), .second, .val (.long x8), .second, .val (.long x9), .second, .val (.long x10), .second, .val (.long x11), .second, .val (.double x12), .second] [(.long x4), (.ref a0)])) t → Steps p.tables e below G0 t := by
    intro t kt
    refine K13 t ?_
    refine XS.aloadN X13.here hx rfl (hb hby d1_20) rfl rfl ?_
    show Steps p.tables e below (T13.setTop (mkF m 21 #[.val (.ref a0), .val (.long x1), .second, .val (.long x2), .second, .val (.long x3), .second, .val (.long x4), .second, .val (.long x5), .second, .val (.long x6), .second, .val (.long x7), .second, .val (.long x8), .second, .val (.long x9), .second, .val (.long x10), .second, .val (.long x11), .second, .val (.double x12), .second] [(.ref a0)])) _
    refine XS.lload X13.here hx rfl (hb hby d1_21) rfl ?_
    show Steps p.tables e below (T13.setTop (mkF m 23 #[.val (.ref a0), .val (.long x1), .second, .val (.long x2), .second, .val (.long x3), .second, .val (.long x4), .second, .val (.long x5), .second, .val (.long x6), .second, .val (.long x7), .second, .val (.long x8), .second, .val (.long x9), .second, .val (.long x10), .second, .val (.long x11), .second, .val (.double x12), .second] [(.long x4), (.ref a0)])) _
    exact kt
  have f15 := (((F_curriculumClashes.other W5 (Or.inr (slot_ne (Or.inr (hw _ (List.mem_of_getElem? (i := 23) rfl))) (Or.inr (hw _ (List.mem_of_getElem? (i := 17) rfl))) (by decide) (t := .long) (t' := .long) (by decide) (by decide)))).other W9 (Or.inr (slot_ne (Or.inr (hw _ (List.mem_of_getElem? (i := 23) rfl))) (Or.inr (hw _ (List.mem_of_getElem? (i := 19) rfl))) (by decide) (t := .long) (t' := .long) (by decide) (by decide)))).other W13 (Or.inr (slot_ne (Or.inr (hw _ (List.mem_of_getElem? (i := 23) rfl))) (Or.inr (hw _ (List.mem_of_getElem? (i := 21) rfl))) (by decide) (t := .long) (t' := .long) (by decide) (by decide))))
  have f16 := (f12.wr W13)
  obtain ⟨T17, h17, X17, e17, W17, st17⟩ := putF X13 hx hZ hown (host := "") (Or.inl (hw _ (List.mem_of_getElem? (i := 22) rfl))) Via.refl e13 f15 f16 (Or.inr ⟨(hw _ (List.mem_of_getElem? (i := 23) rfl)), rfl, hnm⟩) (hw _ (List.mem_of_getElem? (i := 3) rfl)) (ty := .long) (by decide) rfl rfl (g := (mkF m 23 #[.val (.ref a0), .val (.long x1), .second, .val (.long x2), .second, .val (.long x3), .second, .val (.long x4), .second, .val (.long x5), .second, .val (.long x6), .second, .val (.long x7), .second, .val (.long x8), .second, .val (.long x9), .second, .val (.long x10), .second, .val (.long x11), .second, .val (.double x12), .second] [(.long x4), (.ref a0)])) rfl rfl (hb hby d1_23)
  have K17 : ∀ t, Steps p.tables e below (T17.setTop (mkF m 26 #[.val (.ref a0), .val (.long x1), .second, .val (.long x2), .second, .val (.long x3), .second, .val (.long x4), .second, .val (.long x5), .second, .val (.long x6), .second, .val (.long x7), .second, .val (.long x8), .second, .val (.long x9), .second, .val (.long x10), .second, .val (.long x11), .second, .val (.double x12), .second] [])) t → Steps p.tables e below G0 t := fun t kt => K14 t (st17 _ kt)
  have Fw17 := (f15).same W17
  have N17 := Fr.snoc X17 N13 gn
  have Z17 : n0 ≤ h17.size := Nat.le_trans Z13 (Keep.of_wr W17).1
  have KP17 := KP13.wr W17 (Or.inl (List.mem_of_getElem? (i := 0) rfl))
  have K18 : ∀ t, Steps p.tables e below (T17.setTop (mkF m 29 #[.val (.ref a0), .val (.long x1), .second, .val (.long x2), .second, .val (.long x3), .second, .val (.long x4), .second, .val (.long x5), .second, .val (.long x6), .second, .val (.long x7), .second, .val (.long x8), .second, .val (.long x9), .second, .val (.long x10), .second, .val (.long x11), .second, .val (.double x12), .second] [(.long x5), (.ref a0)])) t → Steps p.tables e below G0 t := by
    intro t kt
    refine K17 t ?_
    refine XS.aloadN X17.here hx rfl (hb hby d1_26) rfl rfl ?_
    show Steps p.tables e below (T17.setTop (mkF m 27 #[.val (.ref a0), .val (.long x1), .second, .val (.long x2), .second, .val (.long x3), .second, .val (.long x4), .second, .val (.long x5), .second, .val (.long x6), .second, .val (.long x7), .second, .val (.long x8), .second, .val (.long x9), .second, .val (.long x10), .second, .val (.long x11), .second, .val (.double x12), .second] [(.ref a0)])) _
    refine XS.lload X17.here hx rfl (hb hby d1_27) rfl ?_
    show Steps p.tables e below (T17.setTop (mkF m 29 #[.val (.ref a0), .val (.long x1), .second, .val (.long x2), .second, .val (.long x3), .second, .val (.long x4), .second, .val (.long x5), .second, .val (.long x6), .second, .val (.long x7), .second, .val (.long x8), .second, .val (.long x9), .second, .val (.long x10), .second, .val (.long x11), .second, .val (.double x12), .second] [(.long x5), (.ref a0)])) _
    exact kt
  have f19 := ((((F_unavailable.other W5 (Or.inr (slot_ne (Or.inr (hw _ (List.mem_of_getElem? (i := 25) rfl))) (Or.inr (hw _ (List.mem_of_getElem? (i := 17) rfl))) (by decide) (t := .long) (t' := .long) (by decide) (by decide)))).other W9 (Or.inr (slot_ne (Or.inr (hw _ (List.mem_of_getElem? (i := 25) rfl))) (Or.inr (hw _ (List.mem_of_getElem? (i := 19) rfl))) (by decide) (t := .long) (t' := .long) (by decide) (by decide)))).other W13 (Or.inr (slot_ne (Or.inr (hw _ (List.mem_of_getElem? (i := 25) rfl))) (Or.inr (hw _ (List.mem_of_getElem? (i := 21) rfl))) (by decide) (t := .long) (t' := .long) (by decide) (by decide)))).other W17 (Or.inr (slot_ne (Or.inr (hw _ (List.mem_of_getElem? (i := 25) rfl))) (Or.inr (hw _ (List.mem_of_getElem? (i := 23) rfl))) (by decide) (t := .long) (t' := .long) (by decide) (by decide))))
  have f20 := (f16.wr W17)
  obtain ⟨T21, h21, X21, e21, W21, st21⟩ := putF X17 hx hZ hown (host := "") (Or.inl (hw _ (List.mem_of_getElem? (i := 24) rfl))) Via.refl e17 f19 f20 (Or.inr ⟨(hw _ (List.mem_of_getElem? (i := 25) rfl)), rfl, hnm⟩) (hw _ (List.mem_of_getElem? (i := 3) rfl)) (ty := .long) (by decide) rfl rfl (g := (mkF m 29 #[.val (.ref a0), .val (.long x1), .second, .val (.long x2), .second, .val (.long x3), .second, .val (.long x4), .second, .val (.long x5), .second, .val (.long x6), .second, .val (.long x7), .second, .val (.long x8), .second, .val (.long x9), .second, .val (.long x10), .second, .val (.long x11), .second, .val (.double x12), .second] [(.long x5), (.ref a0)])) rfl rfl (hb hby d1_29)
  have K21 : ∀ t, Steps p.tables e below (T21.setTop (mkF m 32 #[.val (.ref a0), .val (.long x1), .second, .val (.long x2), .second, .val (.long x3), .second, .val (.long x4), .second, .val (.long x5), .second, .val (.long x6), .second, .val (.long x7), .second, .val (.long x8), .second, .val (.long x9), .second, .val (.long x10), .second, .val (.long x11), .second, .val (.double x12), .second] [])) t → Steps p.tables e below G0 t := fun t kt => K18 t (st21 _ kt)
  have Fw21 := (f19).same W21
  have N21 := Fr.snoc X21 N17 gn
  have Z21 : n0 ≤ h21.size := Nat.le_trans Z17 (Keep.of_wr W21).1
  have KP21 := KP17.wr W21 (Or.inl (List.mem_of_getElem? (i := 0) rfl))
  have K22 : ∀ t, Steps p.tables e below (T21.setTop (mkF m 35 #[.val (.ref a0), .val (.long x1), .second, .val (.long x2), .second, .val (.long x3), .second, .val (.long x4), .second, .val (.long x5), .second, .val (.long x6), .second, .val (.long x7), .second, .val (.long x8), .second, .val (.long x9), .second, .val (.long x10), .second, .val (.long x11), .second, .val (.double x12), .second] [(.long x6), (.ref a0)])) t → Steps p.tables e below G0 t := by
    intro t kt
    refine K21 t ?_
    refine XS.aloadN X21.here hx rfl (hb hby d1_32) rfl rfl ?_
    show Steps p.tables e below (T21.setTop (mkF m 33 #[.val (.ref a0), .val (.long x1), .second, .val (.long x2), .second, .val (.long x3), .second, .val (.long x4), .second, .val (.long x5), .second, .val (.long x6), .second, .val (.long x7), .second, .val (.long x8), .second, .val (.long x9), .second, .val (.long x10), .second, .val (.long x11), .second, .val (.double x12), .second] [(.ref a0)])) _
    refine XS.lload X21.here hx rfl (hb hby d1_33) rfl ?_
    show Steps p.tables e below (T21.setTop (mkF m 35 #[.val (.ref a0), .val (.long x1), .second, .val (.long x2), .second, .val (.long x3), .second, .val (.long x4), .second, .val (.long x5), .second, .val (.long x6), .second, .val (.long x7), .second, .val (.long x8), .second, .val (.long x9), .second, .val (.long x10), .second, .val (.long x11), .second, .val (.double x12), .second] [(.long x6), (.ref a0)])) _
    exact kt
  have f23 := (((((F_unqualified.other W5 (Or.inr (slot_ne (Or.inr (hw _ (List.mem_of_getElem? (i := 27) rfl))) (Or.inr (hw _ (List.mem_of_getElem? (i := 17) rfl))) (by decide) (t := .long) (t' := .long) (by decide) (by decide)))).other W9 (Or.inr (slot_ne (Or.inr (hw _ (List.mem_of_getElem? (i := 27) rfl))) (Or.inr (hw _ (List.mem_of_getElem? (i := 19) rfl))) (by decide) (t := .long) (t' := .long) (by decide) (by decide)))).other W13 (Or.inr (slot_ne (Or.inr (hw _ (List.mem_of_getElem? (i := 27) rfl))) (Or.inr (hw _ (List.mem_of_getElem? (i := 21) rfl))) (by decide) (t := .long) (t' := .long) (by decide) (by decide)))).other W17 (Or.inr (slot_ne (Or.inr (hw _ (List.mem_of_getElem? (i := 27) rfl))) (Or.inr (hw _ (List.mem_of_getElem? (i := 23) rfl))) (by decide) (t := .long) (t' := .long) (by decide) (by decide)))).other W21 (Or.inr (slot_ne (Or.inr (hw _ (List.mem_of_getElem? (i := 27) rfl))) (Or.inr (hw _ (List.mem_of_getElem? (i := 25) rfl))) (by decide) (t := .long) (t' := .long) (by decide) (by decide))))
  have f24 := (f20.wr W21)
  obtain ⟨T25, h25, X25, e25, W25, st25⟩ := putF X21 hx hZ hown (host := "") (Or.inl (hw _ (List.mem_of_getElem? (i := 26) rfl))) Via.refl e21 f23 f24 (Or.inr ⟨(hw _ (List.mem_of_getElem? (i := 27) rfl)), rfl, hnm⟩) (hw _ (List.mem_of_getElem? (i := 3) rfl)) (ty := .long) (by decide) rfl rfl (g := (mkF m 35 #[.val (.ref a0), .val (.long x1), .second, .val (.long x2), .second, .val (.long x3), .second, .val (.long x4), .second, .val (.long x5), .second, .val (.long x6), .second, .val (.long x7), .second, .val (.long x8), .second, .val (.long x9), .second, .val (.long x10), .second, .val (.long x11), .second, .val (.double x12), .second] [(.long x6), (.ref a0)])) rfl rfl (hb hby d1_35)
  have K25 : ∀ t, Steps p.tables e below (T25.setTop (mkF m 38 #[.val (.ref a0), .val (.long x1), .second, .val (.long x2), .second, .val (.long x3), .second, .val (.long x4), .second, .val (.long x5), .second, .val (.long x6), .second, .val (.long x7), .second, .val (.long x8), .second, .val (.long x9), .second, .val (.long x10), .second, .val (.long x11), .second, .val (.double x12), .second] [])) t → Steps p.tables e below G0 t := fun t kt => K22 t (st25 _ kt)
  have Fw25 := (f23).same W25
  have N25 := Fr.snoc X25 N21 gn
  have Z25 : n0 ≤ h25.size := Nat.le_trans Z21 (Keep.of_wr W25).1
  have KP25 := KP21.wr W25 (Or.inl (List.mem_of_getElem? (i := 0) rfl))
  have K26 : ∀ t, Steps p.tables e below (T25.setTop (mkF m 41 #[.val (.ref a0), .val (.long x1), .second, .val (.long x2), .second, .val (.long x3), .second, .val (.long x4), .second, .val (.long x5), .second, .val (.long x6), .second, .val (.long x7), .second, .val (.long x8), .second, .val (.long x9), .second, .val (.long x10), .second, .val (.long x11), .second, .val (.double x12), .second] [(.long x7), (.ref a0)])) t → Steps p.tables e below G0 t := by
    intro t kt
    refine K25 t ?_
    refine XS.aloadN X25.here hx rfl (hb hby d1_38) rfl rfl ?_
    show Steps p.tables e below (T25.setTop (mkF m 39 #[.val (.ref a0), .val (.long x1), .second, .val (.long x2), .second, .val (.long x3), .second, .val (.long x4), .second, .val (.long x5), .second, .val (.long x6), .second, .val (.long x7), .second, .val (.long x8), .second, .val (.long x9), .second, .val (.long x10), .second, .val (.long x11), .second, .val (.double x12), .second] [(.ref a0)])) _
    refine XS.lload X25.here hx rfl (hb hby d1_39) rfl ?_
    show Steps p.tables e below (T25.setTop (mkF m 41 #[.val (.ref a0), .val (.long x1), .second, .val (.long x2), .second, .val (.long x3), .second, .val (.long x4), .second, .val (.long x5), .second, .val (.long x6), .second, .val (.long x7), .second, .val (.long x8), .second, .val (.long x9), .second, .val (.long x10), .second, .val (.long x11), .second, .val (.double x12), .second] [(.long x7), (.ref a0)])) _
    exact kt
  have f27 := ((((((F_splitTeacher.other W5 (Or.inr (slot_ne (Or.inr (hw _ (List.mem_of_getElem? (i := 29) rfl))) (Or.inr (hw _ (List.mem_of_getElem? (i := 17) rfl))) (by decide) (t := .long) (t' := .long) (by decide) (by decide)))).other W9 (Or.inr (slot_ne (Or.inr (hw _ (List.mem_of_getElem? (i := 29) rfl))) (Or.inr (hw _ (List.mem_of_getElem? (i := 19) rfl))) (by decide) (t := .long) (t' := .long) (by decide) (by decide)))).other W13 (Or.inr (slot_ne (Or.inr (hw _ (List.mem_of_getElem? (i := 29) rfl))) (Or.inr (hw _ (List.mem_of_getElem? (i := 21) rfl))) (by decide) (t := .long) (t' := .long) (by decide) (by decide)))).other W17 (Or.inr (slot_ne (Or.inr (hw _ (List.mem_of_getElem? (i := 29) rfl))) (Or.inr (hw _ (List.mem_of_getElem? (i := 23) rfl))) (by decide) (t := .long) (t' := .long) (by decide) (by decide)))).other W21 (Or.inr (slot_ne (Or.inr (hw _ (List.mem_of_getElem? (i := 29) rfl))) (Or.inr (hw _ (List.mem_of_getElem? (i := 25) rfl))) (by decide) (t := .long) (t' := .long) (by decide) (by decide)))).other W25 (Or.inr (slot_ne (Or.inr (hw _ (List.mem_of_getElem? (i := 29) rfl))) (Or.inr (hw _ (List.mem_of_getElem? (i := 27) rfl))) (by decide) (t := .long) (t' := .long) (by decide) (by decide))))
  have f28 := (f24.wr W25)
  obtain ⟨T29, h29, X29, e29, W29, st29⟩ := putF X25 hx hZ hown (host := "") (Or.inl (hw _ (List.mem_of_getElem? (i := 28) rfl))) Via.refl e25 f27 f28 (Or.inr ⟨(hw _ (List.mem_of_getElem? (i := 29) rfl)), rfl, hnm⟩) (hw _ (List.mem_of_getElem? (i := 3) rfl)) (ty := .long) (by decide) rfl rfl (g := (mkF m 41 #[.val (.ref a0), .val (.long x1), .second, .val (.long x2), .second, .val (.long x3), .second, .val (.long x4), .second, .val (.long x5), .second, .val (.long x6), .second, .val (.long x7), .second, .val (.long x8), .second, .val (.long x9), .second, .val (.long x10), .second, .val (.long x11), .second, .val (.double x12), .second] [(.long x7), (.ref a0)])) rfl rfl (hb hby d1_41)
  have K29 : ∀ t, Steps p.tables e below (T29.setTop (mkF m 44 #[.val (.ref a0), .val (.long x1), .second, .val (.long x2), .second, .val (.long x3), .second, .val (.long x4), .second, .val (.long x5), .second, .val (.long x6), .second, .val (.long x7), .second, .val (.long x8), .second, .val (.long x9), .second, .val (.long x10), .second, .val (.long x11), .second, .val (.double x12), .second] [])) t → Steps p.tables e below G0 t := fun t kt => K26 t (st29 _ kt)
  have Fw29 := (f27).same W29
  have N29 := Fr.snoc X29 N25 gn
  have Z29 : n0 ≤ h29.size := Nat.le_trans Z25 (Keep.of_wr W29).1
  have KP29 := KP25.wr W29 (Or.inl (List.mem_of_getElem? (i := 0) rfl))
  have K30 : ∀ t, Steps p.tables e below (T29.setTop (mkF m 47 #[.val (.ref a0), .val (.long x1), .second, .val (.long x2), .second, .val (.long x3), .second, .val (.long x4), .second, .val (.long x5), .second, .val (.long x6), .second, .val (.long x7), .second, .val (.long x8), .second, .val (.long x9), .second, .val (.long x10), .second, .val (.long x11), .second, .val (.double x12), .second] [(.long x8), (.ref a0)])) t → Steps p.tables e below G0 t := by
    intro t kt
    refine K29 t ?_
    refine XS.aloadN X29.here hx rfl (hb hby d1_44) rfl rfl ?_
    show Steps p.tables e below (T29.setTop (mkF m 45 #[.val (.ref a0), .val (.long x1), .second, .val (.long x2), .second, .val (.long x3), .second, .val (.long x4), .second, .val (.long x5), .second, .val (.long x6), .second, .val (.long x7), .second, .val (.long x8), .second, .val (.long x9), .second, .val (.long x10), .second, .val (.long x11), .second, .val (.double x12), .second] [(.ref a0)])) _
    refine XS.lload X29.here hx rfl (hb hby d1_45) rfl ?_
    show Steps p.tables e below (T29.setTop (mkF m 47 #[.val (.ref a0), .val (.long x1), .second, .val (.long x2), .second, .val (.long x3), .second, .val (.long x4), .second, .val (.long x5), .second, .val (.long x6), .second, .val (.long x7), .second, .val (.long x8), .second, .val (.long x9), .second, .val (.long x10), .second, .val (.long x11), .second, .val (.double x12), .second] [(.long x8), (.ref a0)])) _
    exact kt
  have f31 := (((((((F_wrongRoom.other W5 (Or.inr (slot_ne (Or.inr (hw _ (List.mem_of_getElem? (i := 31) rfl))) (Or.inr (hw _ (List.mem_of_getElem? (i := 17) rfl))) (by decide) (t := .long) (t' := .long) (by decide) (by decide)))).other W9 (Or.inr (slot_ne (Or.inr (hw _ (List.mem_of_getElem? (i := 31) rfl))) (Or.inr (hw _ (List.mem_of_getElem? (i := 19) rfl))) (by decide) (t := .long) (t' := .long) (by decide) (by decide)))).other W13 (Or.inr (slot_ne (Or.inr (hw _ (List.mem_of_getElem? (i := 31) rfl))) (Or.inr (hw _ (List.mem_of_getElem? (i := 21) rfl))) (by decide) (t := .long) (t' := .long) (by decide) (by decide)))).other W17 (Or.inr (slot_ne (Or.inr (hw _ (List.mem_of_getElem? (i := 31) rfl))) (Or.inr (hw _ (List.mem_of_getElem? (i := 23) rfl))) (by decide) (t := .long) (t' := .long) (by decide) (by decide)))).other W21 (Or.inr (slot_ne (Or.inr (hw _ (List.mem_of_getElem? (i := 31) rfl))) (Or.inr (hw _ (List.mem_of_getElem? (i := 25) rfl))) (by decide) (t := .long) (t' := .long) (by decide) (by decide)))).other W25 (Or.inr (slot_ne (Or.inr (hw _ (List.mem_of_getElem? (i := 31) rfl))) (Or.inr (hw _ (List.mem_of_getElem? (i := 27) rfl))) (by decide) (t := .long) (t' := .long) (by decide) (by decide)))).other W29 (Or.inr (slot_ne (Or.inr (hw _ (List.mem_of_getElem? (i := 31) rfl))) (Or.inr (hw _ (List.mem_of_getElem? (i := 29) rfl))) (by decide) (t := .long) (t' := .long) (by decide) (by decide))))
  have f32 := (f28.wr W29)
  obtain ⟨T33, h33, X33, e33, W33, st33⟩ := putF X29 hx hZ hown (host := "") (Or.inl (hw _ (List.mem_of_getElem? (i := 30) rfl))) Via.refl e29 f31 f32 (Or.inr ⟨(hw _ (List.mem_of_getElem? (i := 31) rfl)), rfl, hnm⟩) (hw _ (List.mem_of_getElem? (i := 3) rfl)) (ty := .long) (by decide) rfl rfl (g := (mkF m 47 #[.val (.ref a0), .val (.long x1), .second, .val (.long x2), .second, .val (.long x3), .second, .val (.long x4), .second, .val (.long x5), .second, .val (.long x6), .second, .val (.long x7), .second, .val (.long x8), .second, .val (.long x9), .second, .val (.long x10), .second, .val (.long x11), .second, .val (.double x12), .second] [(.long x8), (.ref a0)])) rfl rfl (hb hby d1_47)
  have K33 : ∀ t, Steps p.tables e below (T33.setTop (mkF m 50 #[.val (.ref a0), .val (.long x1), .second, .val (.long x2), .second, .val (.long x3), .second, .val (.long x4), .second, .val (.long x5), .second, .val (.long x6), .second, .val (.long x7), .second, .val (.long x8), .second, .val (.long x9), .second, .val (.long x10), .second, .val (.long x11), .second, .val (.double x12), .second] [])) t → Steps p.tables e below G0 t := fun t kt => K30 t (st33 _ kt)
  have Fw33 := (f31).same W33
  have N33 := Fr.snoc X33 N29 gn
  have Z33 : n0 ≤ h33.size := Nat.le_trans Z29 (Keep.of_wr W33).1
  have KP33 := KP29.wr W33 (Or.inl (List.mem_of_getElem? (i := 0) rfl))
  have K34 : ∀ t, Steps p.tables e below (T33.setTop (mkF m 53 #[.val (.ref a0), .val (.long x1), .second, .val (.long x2), .second, .val (.long x3), .second, .val (.long x4), .second, .val (.long x5), .second, .val (.long x6), .second, .val (.long x7), .second, .val (.long x8), .second, .val (.long x9), .second, .val (.long x10), .second, .val (.long x11), .second, .val (.double x12), .second] [(.long x9), (.ref a0)])) t → Steps p.tables e below G0 t := by
    intro t kt
    refine K33 t ?_
    refine XS.aloadN X33.here hx rfl (hb hby d1_50) rfl rfl ?_
    show Steps p.tables e below (T33.setTop (mkF m 51 #[.val (.ref a0), .val (.long x1), .second, .val (.long x2), .second, .val (.long x3), .second, .val (.long x4), .second, .val (.long x5), .second, .val (.long x6), .second, .val (.long x7), .second, .val (.long x8), .second, .val (.long x9), .second, .val (.long x10), .second, .val (.long x11), .second, .val (.double x12), .second] [(.ref a0)])) _
    refine XS.lload X33.here hx rfl (hb hby d1_51) rfl ?_
    show Steps p.tables e below (T33.setTop (mkF m 53 #[.val (.ref a0), .val (.long x1), .second, .val (.long x2), .second, .val (.long x3), .second, .val (.long x4), .second, .val (.long x5), .second, .val (.long x6), .second, .val (.long x7), .second, .val (.long x8), .second, .val (.long x9), .second, .val (.long x10), .second, .val (.long x11), .second, .val (.double x12), .second] [(.long x9), (.ref a0)])) _
    exact kt
  have f35 := ((((((((F_wrongShift.other W5 (Or.inr (slot_ne (Or.inr (hw _ (List.mem_of_getElem? (i := 33) rfl))) (Or.inr (hw _ (List.mem_of_getElem? (i := 17) rfl))) (by decide) (t := .long) (t' := .long) (by decide) (by decide)))).other W9 (Or.inr (slot_ne (Or.inr (hw _ (List.mem_of_getElem? (i := 33) rfl))) (Or.inr (hw _ (List.mem_of_getElem? (i := 19) rfl))) (by decide) (t := .long) (t' := .long) (by decide) (by decide)))).other W13 (Or.inr (slot_ne (Or.inr (hw _ (List.mem_of_getElem? (i := 33) rfl))) (Or.inr (hw _ (List.mem_of_getElem? (i := 21) rfl))) (by decide) (t := .long) (t' := .long) (by decide) (by decide)))).other W17 (Or.inr (slot_ne (Or.inr (hw _ (List.mem_of_getElem? (i := 33) rfl))) (Or.inr (hw _ (List.mem_of_getElem? (i := 23) rfl))) (by decide) (t := .long) (t' := .long) (by decide) (by decide)))).other W21 (Or.inr (slot_ne (Or.inr (hw _ (List.mem_of_getElem? (i := 33) rfl))) (Or.inr (hw _ (List.mem_of_getElem? (i := 25) rfl))) (by decide) (t := .long) (t' := .long) (by decide) (by decide)))).other W25 (Or.inr (slot_ne (Or.inr (hw _ (List.mem_of_getElem? (i := 33) rfl))) (Or.inr (hw _ (List.mem_of_getElem? (i := 27) rfl))) (by decide) (t := .long) (t' := .long) (by decide) (by decide)))).other W29 (Or.inr (slot_ne (Or.inr (hw _ (List.mem_of_getElem? (i := 33) rfl))) (Or.inr (hw _ (List.mem_of_getElem? (i := 29) rfl))) (by decide) (t := .long) (t' := .long) (by decide) (by decide)))).other W33 (Or.inr (slot_ne (Or.inr (hw _ (List.mem_of_getElem? (i := 33) rfl))) (Or.inr (hw _ (List.mem_of_getElem? (i := 31) rfl))) (by decide) (t := .long) (t' := .long) (by decide) (by decide))))
  have f36 := (f32.wr W33)
  obtain ⟨T37, h37, X37, e37, W37, st37⟩ := putF X33 hx hZ hown (host := "") (Or.inl (hw _ (List.mem_of_getElem? (i := 32) rfl))) Via.refl e33 f35 f36 (Or.inr ⟨(hw _ (List.mem_of_getElem? (i := 33) rfl)), rfl, hnm⟩) (hw _ (List.mem_of_getElem? (i := 3) rfl)) (ty := .long) (by decide) rfl rfl (g := (mkF m 53 #[.val (.ref a0), .val (.long x1), .second, .val (.long x2), .second, .val (.long x3), .second, .val (.long x4), .second, .val (.long x5), .second, .val (.long x6), .second, .val (.long x7), .second, .val (.long x8), .second, .val (.long x9), .second, .val (.long x10), .second, .val (.long x11), .second, .val (.double x12), .second] [(.long x9), (.ref a0)])) rfl rfl (hb hby d1_53)
  have K37 : ∀ t, Steps p.tables e below (T37.setTop (mkF m 56 #[.val (.ref a0), .val (.long x1), .second, .val (.long x2), .second, .val (.long x3), .second, .val (.long x4), .second, .val (.long x5), .second, .val (.long x6), .second, .val (.long x7), .second, .val (.long x8), .second, .val (.long x9), .second, .val (.long x10), .second, .val (.long x11), .second, .val (.double x12), .second] [])) t → Steps p.tables e below G0 t := fun t kt => K34 t (st37 _ kt)
  have Fw37 := (f35).same W37
  have N37 := Fr.snoc X37 N33 gn
  have Z37 : n0 ≤ h37.size := Nat.le_trans Z33 (Keep.of_wr W37).1
  have KP37 := KP33.wr W37 (Or.inl (List.mem_of_getElem? (i := 0) rfl))
  have K38 : ∀ t, Steps p.tables e below (T37.setTop (mkF m 59 #[.val (.ref a0), .val (.long x1), .second, .val (.long x2), .second, .val (.long x3), .second, .val (.long x4), .second, .val (.long x5), .second, .val (.long x6), .second, .val (.long x7), .second, .val (.long x8), .second, .val (.long x9), .second, .val (.long x10), .second, .val (.long x11), .second, .val (.double x12), .second] [(.long x10), (.ref a0)])) t → Steps p.tables e below G0 t := by
    intro t kt
    refine K37 t ?_
    refine XS.aloadN X37.here hx rfl (hb hby d1_56) rfl rfl ?_
    show Steps p.tables e below (T37.setTop (mkF m 57 #[.val (.ref a0), .val (.long x1), .second, .val (.long x2), .second, .val (.long x3), .second, .val (.long x4), .second, .val (.long x5), .second, .val (.long x6), .second, .val (.long x7), .second, .val (.long x8), .second, .val (.long x9), .second, .val (.long x10), .second, .val (.long x11), .second, .val (.double x12), .second] [(.ref a0)])) _
    refine XS.lload X37.here hx rfl (hb hby d1_57) rfl ?_
    show Steps p.tables e below (T37.setTop (mkF m 59 #[.val (.ref a0), .val (.long x1), .second, .val (.long x2), .second, .val (.long x3), .second, .val (.long x4), .second, .val (.long x5), .second, .val (.long x6), .second, .val (.long x7), .second, .val (.long x8), .second, .val (.long x9), .second, .val (.long x10), .second, .val (.long x11), .second, .val (.double x12), .second] [(.long x10), (.ref a0)])) _
    exact kt
  have f39 := (((((((((F_placed.other W5 (Or.inr (slot_ne (Or.inr (hw _ (List.mem_of_getElem? (i := 35) rfl))) (Or.inr (hw _ (List.mem_of_getElem? (i := 17) rfl))) (by decide) (t := .long) (t' := .long) (by decide) (by decide)))).other W9 (Or.inr (slot_ne (Or.inr (hw _ (List.mem_of_getElem? (i := 35) rfl))) (Or.inr (hw _ (List.mem_of_getElem? (i := 19) rfl))) (by decide) (t := .long) (t' := .long) (by decide) (by decide)))).other W13 (Or.inr (slot_ne (Or.inr (hw _ (List.mem_of_getElem? (i := 35) rfl))) (Or.inr (hw _ (List.mem_of_getElem? (i := 21) rfl))) (by decide) (t := .long) (t' := .long) (by decide) (by decide)))).other W17 (Or.inr (slot_ne (Or.inr (hw _ (List.mem_of_getElem? (i := 35) rfl))) (Or.inr (hw _ (List.mem_of_getElem? (i := 23) rfl))) (by decide) (t := .long) (t' := .long) (by decide) (by decide)))).other W21 (Or.inr (slot_ne (Or.inr (hw _ (List.mem_of_getElem? (i := 35) rfl))) (Or.inr (hw _ (List.mem_of_getElem? (i := 25) rfl))) (by decide) (t := .long) (t' := .long) (by decide) (by decide)))).other W25 (Or.inr (slot_ne (Or.inr (hw _ (List.mem_of_getElem? (i := 35) rfl))) (Or.inr (hw _ (List.mem_of_getElem? (i := 27) rfl))) (by decide) (t := .long) (t' := .long) (by decide) (by decide)))).other W29 (Or.inr (slot_ne (Or.inr (hw _ (List.mem_of_getElem? (i := 35) rfl))) (Or.inr (hw _ (List.mem_of_getElem? (i := 29) rfl))) (by decide) (t := .long) (t' := .long) (by decide) (by decide)))).other W33 (Or.inr (slot_ne (Or.inr (hw _ (List.mem_of_getElem? (i := 35) rfl))) (Or.inr (hw _ (List.mem_of_getElem? (i := 31) rfl))) (by decide) (t := .long) (t' := .long) (by decide) (by decide)))).other W37 (Or.inr (slot_ne (Or.inr (hw _ (List.mem_of_getElem? (i := 35) rfl))) (Or.inr (hw _ (List.mem_of_getElem? (i := 33) rfl))) (by decide) (t := .long) (t' := .long) (by decide) (by decide))))
  have f40 := (f36.wr W37)
  obtain ⟨T41, h41, X41, e41, W41, st41⟩ := putF X37 hx hZ hown (host := "") (Or.inl (hw _ (List.mem_of_getElem? (i := 34) rfl))) Via.refl e37 f39 f40 (Or.inr ⟨(hw _ (List.mem_of_getElem? (i := 35) rfl)), rfl, hnm⟩) (hw _ (List.mem_of_getElem? (i := 3) rfl)) (ty := .long) (by decide) rfl rfl (g := (mkF m 59 #[.val (.ref a0), .val (.long x1), .second, .val (.long x2), .second, .val (.long x3), .second, .val (.long x4), .second, .val (.long x5), .second, .val (.long x6), .second, .val (.long x7), .second, .val (.long x8), .second, .val (.long x9), .second, .val (.long x10), .second, .val (.long x11), .second, .val (.double x12), .second] [(.long x10), (.ref a0)])) rfl rfl (hb hby d1_59)
  have K41 : ∀ t, Steps p.tables e below (T41.setTop (mkF m 62 #[.val (.ref a0), .val (.long x1), .second, .val (.long x2), .second, .val (.long x3), .second, .val (.long x4), .second, .val (.long x5), .second, .val (.long x6), .second, .val (.long x7), .second, .val (.long x8), .second, .val (.long x9), .second, .val (.long x10), .second, .val (.long x11), .second, .val (.double x12), .second] [])) t → Steps p.tables e below G0 t := fun t kt => K38 t (st41 _ kt)
  have Fw41 := (f39).same W41
  have N41 := Fr.snoc X41 N37 gn
  have Z41 : n0 ≤ h41.size := Nat.le_trans Z37 (Keep.of_wr W41).1
  have KP41 := KP37.wr W41 (Or.inl (List.mem_of_getElem? (i := 0) rfl))
  have K42 : ∀ t, Steps p.tables e below (T41.setTop (mkF m 65 #[.val (.ref a0), .val (.long x1), .second, .val (.long x2), .second, .val (.long x3), .second, .val (.long x4), .second, .val (.long x5), .second, .val (.long x6), .second, .val (.long x7), .second, .val (.long x8), .second, .val (.long x9), .second, .val (.long x10), .second, .val (.long x11), .second, .val (.double x12), .second] [(.long x11), (.ref a0)])) t → Steps p.tables e below G0 t := by
    intro t kt
    refine K41 t ?_
    refine XS.aloadN X41.here hx rfl (hb hby d1_62) rfl rfl ?_
    show Steps p.tables e below (T41.setTop (mkF m 63 #[.val (.ref a0), .val (.long x1), .second, .val (.long x2), .second, .val (.long x3), .second, .val (.long x4), .second, .val (.long x5), .second, .val (.long x6), .second, .val (.long x7), .second, .val (.long x8), .second, .val (.long x9), .second, .val (.long x10), .second, .val (.long x11), .second, .val (.double x12), .second] [(.ref a0)])) _
    refine XS.lload X41.here hx rfl (hb hby d1_63) rfl ?_
    show Steps p.tables e below (T41.setTop (mkF m 65 #[.val (.ref a0), .val (.long x1), .second, .val (.long x2), .second, .val (.long x3), .second, .val (.long x4), .second, .val (.long x5), .second, .val (.long x6), .second, .val (.long x7), .second, .val (.long x8), .second, .val (.long x9), .second, .val (.long x10), .second, .val (.long x11), .second, .val (.double x12), .second] [(.long x11), (.ref a0)])) _
    exact kt
  have f43 := ((((((((((F_preferred.other W5 (Or.inr (slot_ne (Or.inr (hw _ (List.mem_of_getElem? (i := 37) rfl))) (Or.inr (hw _ (List.mem_of_getElem? (i := 17) rfl))) (by decide) (t := .long) (t' := .long) (by decide) (by decide)))).other W9 (Or.inr (slot_ne (Or.inr (hw _ (List.mem_of_getElem? (i := 37) rfl))) (Or.inr (hw _ (List.mem_of_getElem? (i := 19) rfl))) (by decide) (t := .long) (t' := .long) (by decide) (by decide)))).other W13 (Or.inr (slot_ne (Or.inr (hw _ (List.mem_of_getElem? (i := 37) rfl))) (Or.inr (hw _ (List.mem_of_getElem? (i := 21) rfl))) (by decide) (t := .long) (t' := .long) (by decide) (by decide)))).other W17 (Or.inr (slot_ne (Or.inr (hw _ (List.mem_of_getElem? (i := 37) rfl))) (Or.inr (hw _ (List.mem_of_getElem? (i := 23) rfl))) (by decide) (t := .long) (t' := .long) (by decide) (by decide)))).other W21 (Or.inr (slot_ne (Or.inr (hw _ (List.mem_of_getElem? (i := 37) rfl))) (Or.inr (hw _ (List.mem_of_getElem? (i := 25) rfl))) (by decide) (t := .long) (t' := .long) (by decide) (by decide)))).other W25 (Or.inr (slot_ne (Or.inr (hw _ (List.mem_of_getElem? (i := 37) rfl))) (Or.inr (hw _ (List.mem_of_getElem? (i := 27) rfl))) (by decide) (t := .long) (t' := .long) (by decide) (by decide)))).other W29 (Or.inr (slot_ne (Or.inr (hw _ (List.mem_of_getElem? (i := 37) rfl))) (Or.inr (hw _ (List.mem_of_getElem? (i := 29) rfl))) (by decide) (t := .long) (t' := .long) (by decide) (by decide)))).other W33 (Or.inr (slot_ne (Or.inr (hw _ (List.mem_of_getElem? (i := 37) rfl))) (Or.inr (hw _ (List.mem_of_getElem? (i := 31) rfl))) (by decide) (t := .long) (t' := .long) (by decide) (by decide)))).other W37 (Or.inr (slot_ne (Or.inr (hw _ (List.mem_of_getElem? (i := 37) rfl))) (Or.inr (hw _ (List.mem_of_getElem? (i := 33) rfl))) (by decide) (t := .long) (t' := .long) (by decide) (by decide)))).other W41 (Or.inr (slot_ne (Or.inr (hw _ (List.mem_of_getElem? (i := 37) rfl))) (Or.inr (hw _ (List.mem_of_getElem? (i := 35) rfl))) (by decide) (t := .long) (t' := .long) (by decide) (by decide))))
  have f44 := (f40.wr W41)
  obtain ⟨T45, h45, X45, e45, W45, st45⟩ := putF X41 hx hZ hown (host := "") (Or.inl (hw _ (List.mem_of_getElem? (i := 36) rfl))) Via.refl e41 f43 f44 (Or.inr ⟨(hw _ (List.mem_of_getElem? (i := 37) rfl)), rfl, hnm⟩) (hw _ (List.mem_of_getElem? (i := 3) rfl)) (ty := .long) (by decide) rfl rfl (g := (mkF m 65 #[.val (.ref a0), .val (.long x1), .second, .val (.long x2), .second, .val (.long x3), .second, .val (.long x4), .second, .val (.long x5), .second, .val (.long x6), .second, .val (.long x7), .second, .val (.long x8), .second, .val (.long x9), .second, .val (.long x10), .second, .val (.long x11), .second, .val (.double x12), .second] [(.long x11), (.ref a0)])) rfl rfl (hb hby d1_65)
  have K45 : ∀ t, Steps p.tables e below (T45.setTop (mkF m 68 #[.val (.ref a0), .val (.long x1), .second, .val (.long x2), .second, .val (.long x3), .second, .val (.long x4), .second, .val (.long x5), .second, .val (.long x6), .second, .val (.long x7), .second, .val (.long x8), .second, .val (.long x9), .second, .val (.long x10), .second, .val (.long x11), .second, .val (.double x12), .second] [])) t → Steps p.tables e below G0 t := fun t kt => K42 t (st45 _ kt)
  have Fw45 := (f43).same W45
  have N45 := Fr.snoc X45 N41 gn
  have Z45 : n0 ≤ h45.size := Nat.le_trans Z41 (Keep.of_wr W45).1
  have KP45 := KP41.wr W45 (Or.inl (List.mem_of_getElem? (i := 0) rfl))
  have K46 : ∀ t, Steps p.tables e below (T45.setTop (mkF m 71 #[.val (.ref a0), .val (.long x1), .second, .val (.long x2), .second, .val (.long x3), .second, .val (.long x4), .second, .val (.long x5), .second, .val (.long x6), .second, .val (.long x7), .second, .val (.long x8), .second, .val (.long x9), .second, .val (.long x10), .second, .val (.long x11), .second, .val (.double x12), .second] [(.double x12), (.ref a0)])) t → Steps p.tables e below G0 t := by
    intro t kt
    refine K45 t ?_
    refine XS.aloadN X45.here hx rfl (hb hby d1_68) rfl rfl ?_
    show Steps p.tables e below (T45.setTop (mkF m 69 #[.val (.ref a0), .val (.long x1), .second, .val (.long x2), .second, .val (.long x3), .second, .val (.long x4), .second, .val (.long x5), .second, .val (.long x6), .second, .val (.long x7), .second, .val (.long x8), .second, .val (.long x9), .second, .val (.long x10), .second, .val (.long x11), .second, .val (.double x12), .second] [(.ref a0)])) _
    refine XS.dload X45.here hx rfl (hb hby d1_69) rfl ?_
    show Steps p.tables e below (T45.setTop (mkF m 71 #[.val (.ref a0), .val (.long x1), .second, .val (.long x2), .second, .val (.long x3), .second, .val (.long x4), .second, .val (.long x5), .second, .val (.long x6), .second, .val (.long x7), .second, .val (.long x8), .second, .val (.long x9), .second, .val (.long x10), .second, .val (.long x11), .second, .val (.double x12), .second] [(.double x12), (.ref a0)])) _
    exact kt
  have f47 := (((((((((((F_loadStddev.other W5 (Or.inr (slot_ne (Or.inr (hw _ (List.mem_of_getElem? (i := 39) rfl))) (Or.inr (hw _ (List.mem_of_getElem? (i := 17) rfl))) (by decide) (t := .double) (t' := .long) (by decide) (by decide)))).other W9 (Or.inr (slot_ne (Or.inr (hw _ (List.mem_of_getElem? (i := 39) rfl))) (Or.inr (hw _ (List.mem_of_getElem? (i := 19) rfl))) (by decide) (t := .double) (t' := .long) (by decide) (by decide)))).other W13 (Or.inr (slot_ne (Or.inr (hw _ (List.mem_of_getElem? (i := 39) rfl))) (Or.inr (hw _ (List.mem_of_getElem? (i := 21) rfl))) (by decide) (t := .double) (t' := .long) (by decide) (by decide)))).other W17 (Or.inr (slot_ne (Or.inr (hw _ (List.mem_of_getElem? (i := 39) rfl))) (Or.inr (hw _ (List.mem_of_getElem? (i := 23) rfl))) (by decide) (t := .double) (t' := .long) (by decide) (by decide)))).other W21 (Or.inr (slot_ne (Or.inr (hw _ (List.mem_of_getElem? (i := 39) rfl))) (Or.inr (hw _ (List.mem_of_getElem? (i := 25) rfl))) (by decide) (t := .double) (t' := .long) (by decide) (by decide)))).other W25 (Or.inr (slot_ne (Or.inr (hw _ (List.mem_of_getElem? (i := 39) rfl))) (Or.inr (hw _ (List.mem_of_getElem? (i := 27) rfl))) (by decide) (t := .double) (t' := .long) (by decide) (by decide)))).other W29 (Or.inr (slot_ne (Or.inr (hw _ (List.mem_of_getElem? (i := 39) rfl))) (Or.inr (hw _ (List.mem_of_getElem? (i := 29) rfl))) (by decide) (t := .double) (t' := .long) (by decide) (by decide)))).other W33 (Or.inr (slot_ne (Or.inr (hw _ (List.mem_of_getElem? (i := 39) rfl))) (Or.inr (hw _ (List.mem_of_getElem? (i := 31) rfl))) (by decide) (t := .double) (t' := .long) (by decide) (by decide)))).other W37 (Or.inr (slot_ne (Or.inr (hw _ (List.mem_of_getElem? (i := 39) rfl))) (Or.inr (hw _ (List.mem_of_getElem? (i := 33) rfl))) (by decide) (t := .double) (t' := .long) (by decide) (by decide)))).other W41 (Or.inr (slot_ne (Or.inr (hw _ (List.mem_of_getElem? (i := 39) rfl))) (Or.inr (hw _ (List.mem_of_getElem? (i := 35) rfl))) (by decide) (t := .double) (t' := .long) (by decide) (by decide)))).other W45 (Or.inr (slot_ne (Or.inr (hw _ (List.mem_of_getElem? (i := 39) rfl))) (Or.inr (hw _ (List.mem_of_getElem? (i := 37) rfl))) (by decide) (t := .double) (t' := .long) (by decide) (by decide))))
  have f48 := (f44.wr W45)
  obtain ⟨T49, h49, X49, e49, W49, st49⟩ := putF X45 hx hZ hown (host := "") (Or.inl (hw _ (List.mem_of_getElem? (i := 38) rfl))) Via.refl e45 f47 f48 (Or.inr ⟨(hw _ (List.mem_of_getElem? (i := 39) rfl)), rfl, hnm⟩) (hw _ (List.mem_of_getElem? (i := 3) rfl)) (ty := .double) (by decide) rfl rfl (g := (mkF m 71 #[.val (.ref a0), .val (.long x1), .second, .val (.long x2), .second, .val (.long x3), .second, .val (.long x4), .second, .val (.long x5), .second, .val (.long x6), .second, .val (.long x7), .second, .val (.long x8), .second, .val (.long x9), .second, .val (.long x10), .second, .val (.long x11), .second, .val (.double x12), .second] [(.double x12), (.ref a0)])) rfl rfl (hb hby d1_71)
  have K49 : ∀ t, Steps p.tables e below (T49.setTop (mkF m 74 #[.val (.ref a0), .val (.long x1), .second, .val (.long x2), .second, .val (.long x3), .second, .val (.long x4), .second, .val (.long x5), .second, .val (.long x6), .second, .val (.long x7), .second, .val (.long x8), .second, .val (.long x9), .second, .val (.long x10), .second, .val (.long x11), .second, .val (.double x12), .second] [])) t → Steps p.tables e below G0 t := fun t kt => K46 t (st49 _ kt)
  have Fw49 := (f47).same W49
  have N49 := Fr.snoc X49 N45 gn
  have Z49 : n0 ≤ h49.size := Nat.le_trans Z45 (Keep.of_wr W49).1
  have KP49 := KP45.wr W49 (Or.inl (List.mem_of_getElem? (i := 0) rfl))
  have f50 := (f48.wr W49)
  have f51 := (((((((((((Fw5.other W9 (Or.inr (slot_ne (Or.inr (hw _ (List.mem_of_getElem? (i := 17) rfl))) (Or.inr (hw _ (List.mem_of_getElem? (i := 19) rfl))) (by decide) (t := .long) (t' := .long) (by decide) (by decide)))).other W13 (Or.inr (slot_ne (Or.inr (hw _ (List.mem_of_getElem? (i := 17) rfl))) (Or.inr (hw _ (List.mem_of_getElem? (i := 21) rfl))) (by decide) (t := .long) (t' := .long) (by decide) (by decide)))).other W17 (Or.inr (slot_ne (Or.inr (hw _ (List.mem_of_getElem? (i := 17) rfl))) (Or.inr (hw _ (List.mem_of_getElem? (i := 23) rfl))) (by decide) (t := .long) (t' := .long) (by decide) (by decide)))).other W21 (Or.inr (slot_ne (Or.inr (hw _ (List.mem_of_getElem? (i := 17) rfl))) (Or.inr (hw _ (List.mem_of_getElem? (i := 25) rfl))) (by decide) (t := .long) (t' := .long) (by decide) (by decide)))).other W25 (Or.inr (slot_ne (Or.inr (hw _ (List.mem_of_getElem? (i := 17) rfl))) (Or.inr (hw _ (List.mem_of_getElem? (i := 27) rfl))) (by decide) (t := .long) (t' := .long) (by decide) (by decide)))).other W29 (Or.inr (slot_ne (Or.inr (hw _ (List.mem_of_getElem? (i := 17) rfl))) (Or.inr (hw _ (List.mem_of_getElem? (i := 29) rfl))) (by decide) (t := .long) (t' := .long) (by decide) (by decide)))).other W33 (Or.inr (slot_ne (Or.inr (hw _ (List.mem_of_getElem? (i := 17) rfl))) (Or.inr (hw _ (List.mem_of_getElem? (i := 31) rfl))) (by decide) (t := .long) (t' := .long) (by decide) (by decide)))).other W37 (Or.inr (slot_ne (Or.inr (hw _ (List.mem_of_getElem? (i := 17) rfl))) (Or.inr (hw _ (List.mem_of_getElem? (i := 33) rfl))) (by decide) (t := .long) (t' := .long) (by decide) (by decide)))).other W41 (Or.inr (slot_ne (Or.inr (hw _ (List.mem_of_getElem? (i := 17) rfl))) (Or.inr (hw _ (List.mem_of_getElem? (i := 35) rfl))) (by decide) (t := .long) (t' := .long) (by decide) (by decide)))).other W45 (Or.inr (slot_ne (Or.inr (hw _ (List.mem_of_getElem? (i := 17) rfl))) (Or.inr (hw _ (List.mem_of_getElem? (i := 37) rfl))) (by decide) (t := .long) (t' := .long) (by decide) (by decide)))).other W49 (Or.inr (slot_ne (Or.inr (hw _ (List.mem_of_getElem? (i := 17) rfl))) (Or.inr (hw _ (List.mem_of_getElem? (i := 39) rfl))) (by decide) (t := .long) (t' := .double) (by decide) (by decide))))
  have f52 := ((((((((((Fw9.other W13 (Or.inr (slot_ne (Or.inr (hw _ (List.mem_of_getElem? (i := 19) rfl))) (Or.inr (hw _ (List.mem_of_getElem? (i := 21) rfl))) (by decide) (t := .long) (t' := .long) (by decide) (by decide)))).other W17 (Or.inr (slot_ne (Or.inr (hw _ (List.mem_of_getElem? (i := 19) rfl))) (Or.inr (hw _ (List.mem_of_getElem? (i := 23) rfl))) (by decide) (t := .long) (t' := .long) (by decide) (by decide)))).other W21 (Or.inr (slot_ne (Or.inr (hw _ (List.mem_of_getElem? (i := 19) rfl))) (Or.inr (hw _ (List.mem_of_getElem? (i := 25) rfl))) (by decide) (t := .long) (t' := .long) (by decide) (by decide)))).other W25 (Or.inr (slot_ne (Or.inr (hw _ (List.mem_of_getElem? (i := 19) rfl))) (Or.inr (hw _ (List.mem_of_getElem? (i := 27) rfl))) (by decide) (t := .long) (t' := .long) (by decide) (by decide)))).other W29 (Or.inr (slot_ne (Or.inr (hw _ (List.mem_of_getElem? (i := 19) rfl))) (Or.inr (hw _ (List.mem_of_getElem? (i := 29) rfl))) (by decide) (t := .long) (t' := .long) (by decide) (by decide)))).other W33 (Or.inr (slot_ne (Or.inr (hw _ (List.mem_of_getElem? (i := 19) rfl))) (Or.inr (hw _ (List.mem_of_getElem? (i := 31) rfl))) (by decide) (t := .long) (t' := .long) (by decide) (by decide)))).other W37 (Or.inr (slot_ne (Or.inr (hw _ (List.mem_of_getElem? (i := 19) rfl))) (Or.inr (hw _ (List.mem_of_getElem? (i := 33) rfl))) (by decide) (t := .long) (t' := .long) (by decide) (by decide)))).other W41 (Or.inr (slot_ne (Or.inr (hw _ (List.mem_of_getElem? (i := 19) rfl))) (Or.inr (hw _ (List.mem_of_getElem? (i := 35) rfl))) (by decide) (t := .long) (t' := .long) (by decide) (by decide)))).other W45 (Or.inr (slot_ne (Or.inr (hw _ (List.mem_of_getElem? (i := 19) rfl))) (Or.inr (hw _ (List.mem_of_getElem? (i := 37) rfl))) (by decide) (t := .long) (t' := .long) (by decide) (by decide)))).other W49 (Or.inr (slot_ne (Or.inr (hw _ (List.mem_of_getElem? (i := 19) rfl))) (Or.inr (hw _ (List.mem_of_getElem? (i := 39) rfl))) (by decide) (t := .long) (t' := .double) (by decide) (by decide))))
  have f53 := (((((((((Fw13.other W17 (Or.inr (slot_ne (Or.inr (hw _ (List.mem_of_getElem? (i := 21) rfl))) (Or.inr (hw _ (List.mem_of_getElem? (i := 23) rfl))) (by decide) (t := .long) (t' := .long) (by decide) (by decide)))).other W21 (Or.inr (slot_ne (Or.inr (hw _ (List.mem_of_getElem? (i := 21) rfl))) (Or.inr (hw _ (List.mem_of_getElem? (i := 25) rfl))) (by decide) (t := .long) (t' := .long) (by decide) (by decide)))).other W25 (Or.inr (slot_ne (Or.inr (hw _ (List.mem_of_getElem? (i := 21) rfl))) (Or.inr (hw _ (List.mem_of_getElem? (i := 27) rfl))) (by decide) (t := .long) (t' := .long) (by decide) (by decide)))).other W29 (Or.inr (slot_ne (Or.inr (hw _ (List.mem_of_getElem? (i := 21) rfl))) (Or.inr (hw _ (List.mem_of_getElem? (i := 29) rfl))) (by decide) (t := .long) (t' := .long) (by decide) (by decide)))).other W33 (Or.inr (slot_ne (Or.inr (hw _ (List.mem_of_getElem? (i := 21) rfl))) (Or.inr (hw _ (List.mem_of_getElem? (i := 31) rfl))) (by decide) (t := .long) (t' := .long) (by decide) (by decide)))).other W37 (Or.inr (slot_ne (Or.inr (hw _ (List.mem_of_getElem? (i := 21) rfl))) (Or.inr (hw _ (List.mem_of_getElem? (i := 33) rfl))) (by decide) (t := .long) (t' := .long) (by decide) (by decide)))).other W41 (Or.inr (slot_ne (Or.inr (hw _ (List.mem_of_getElem? (i := 21) rfl))) (Or.inr (hw _ (List.mem_of_getElem? (i := 35) rfl))) (by decide) (t := .long) (t' := .long) (by decide) (by decide)))).other W45 (Or.inr (slot_ne (Or.inr (hw _ (List.mem_of_getElem? (i := 21) rfl))) (Or.inr (hw _ (List.mem_of_getElem? (i := 37) rfl))) (by decide) (t := .long) (t' := .long) (by decide) (by decide)))).other W49 (Or.inr (slot_ne (Or.inr (hw _ (List.mem_of_getElem? (i := 21) rfl))) (Or.inr (hw _ (List.mem_of_getElem? (i := 39) rfl))) (by decide) (t := .long) (t' := .double) (by decide) (by decide))))
  have f54 := ((((((((Fw17.other W21 (Or.inr (slot_ne (Or.inr (hw _ (List.mem_of_getElem? (i := 23) rfl))) (Or.inr (hw _ (List.mem_of_getElem? (i := 25) rfl))) (by decide) (t := .long) (t' := .long) (by decide) (by decide)))).other W25 (Or.inr (slot_ne (Or.inr (hw _ (List.mem_of_getElem? (i := 23) rfl))) (Or.inr (hw _ (List.mem_of_getElem? (i := 27) rfl))) (by decide) (t := .long) (t' := .long) (by decide) (by decide)))).other W29 (Or.inr (slot_ne (Or.inr (hw _ (List.mem_of_getElem? (i := 23) rfl))) (Or.inr (hw _ (List.mem_of_getElem? (i := 29) rfl))) (by decide) (t := .long) (t' := .long) (by decide) (by decide)))).other W33 (Or.inr (slot_ne (Or.inr (hw _ (List.mem_of_getElem? (i := 23) rfl))) (Or.inr (hw _ (List.mem_of_getElem? (i := 31) rfl))) (by decide) (t := .long) (t' := .long) (by decide) (by decide)))).other W37 (Or.inr (slot_ne (Or.inr (hw _ (List.mem_of_getElem? (i := 23) rfl))) (Or.inr (hw _ (List.mem_of_getElem? (i := 33) rfl))) (by decide) (t := .long) (t' := .long) (by decide) (by decide)))).other W41 (Or.inr (slot_ne (Or.inr (hw _ (List.mem_of_getElem? (i := 23) rfl))) (Or.inr (hw _ (List.mem_of_getElem? (i := 35) rfl))) (by decide) (t := .long) (t' := .long) (by decide) (by decide)))).other W45 (Or.inr (slot_ne (Or.inr (hw _ (List.mem_of_getElem? (i := 23) rfl))) (Or.inr (hw _ (List.mem_of_getElem? (i := 37) rfl))) (by decide) (t := .long) (t' := .long) (by decide) (by decide)))).other W49 (Or.inr (slot_ne (Or.inr (hw _ (List.mem_of_getElem? (i := 23) rfl))) (Or.inr (hw _ (List.mem_of_getElem? (i := 39) rfl))) (by decide) (t := .long) (t' := .double) (by decide) (by decide))))
  have f55 := (((((((Fw21.other W25 (Or.inr (slot_ne (Or.inr (hw _ (List.mem_of_getElem? (i := 25) rfl))) (Or.inr (hw _ (List.mem_of_getElem? (i := 27) rfl))) (by decide) (t := .long) (t' := .long) (by decide) (by decide)))).other W29 (Or.inr (slot_ne (Or.inr (hw _ (List.mem_of_getElem? (i := 25) rfl))) (Or.inr (hw _ (List.mem_of_getElem? (i := 29) rfl))) (by decide) (t := .long) (t' := .long) (by decide) (by decide)))).other W33 (Or.inr (slot_ne (Or.inr (hw _ (List.mem_of_getElem? (i := 25) rfl))) (Or.inr (hw _ (List.mem_of_getElem? (i := 31) rfl))) (by decide) (t := .long) (t' := .long) (by decide) (by decide)))).other W37 (Or.inr (slot_ne (Or.inr (hw _ (List.mem_of_getElem? (i := 25) rfl))) (Or.inr (hw _ (List.mem_of_getElem? (i := 33) rfl))) (by decide) (t := .long) (t' := .long) (by decide) (by decide)))).other W41 (Or.inr (slot_ne (Or.inr (hw _ (List.mem_of_getElem? (i := 25) rfl))) (Or.inr (hw _ (List.mem_of_getElem? (i := 35) rfl))) (by decide) (t := .long) (t' := .long) (by decide) (by decide)))).other W45 (Or.inr (slot_ne (Or.inr (hw _ (List.mem_of_getElem? (i := 25) rfl))) (Or.inr (hw _ (List.mem_of_getElem? (i := 37) rfl))) (by decide) (t := .long) (t' := .long) (by decide) (by decide)))).other W49 (Or.inr (slot_ne (Or.inr (hw _ (List.mem_of_getElem? (i := 25) rfl))) (Or.inr (hw _ (List.mem_of_getElem? (i := 39) rfl))) (by decide) (t := .long) (t' := .double) (by decide) (by decide))))
  have f56 := ((((((Fw25.other W29 (Or.inr (slot_ne (Or.inr (hw _ (List.mem_of_getElem? (i := 27) rfl))) (Or.inr (hw _ (List.mem_of_getElem? (i := 29) rfl))) (by decide) (t := .long) (t' := .long) (by decide) (by decide)))).other W33 (Or.inr (slot_ne (Or.inr (hw _ (List.mem_of_getElem? (i := 27) rfl))) (Or.inr (hw _ (List.mem_of_getElem? (i := 31) rfl))) (by decide) (t := .long) (t' := .long) (by decide) (by decide)))).other W37 (Or.inr (slot_ne (Or.inr (hw _ (List.mem_of_getElem? (i := 27) rfl))) (Or.inr (hw _ (List.mem_of_getElem? (i := 33) rfl))) (by decide) (t := .long) (t' := .long) (by decide) (by decide)))).other W41 (Or.inr (slot_ne (Or.inr (hw _ (List.mem_of_getElem? (i := 27) rfl))) (Or.inr (hw _ (List.mem_of_getElem? (i := 35) rfl))) (by decide) (t := .long) (t' := .long) (by decide) (by decide)))).other W45 (Or.inr (slot_ne (Or.inr (hw _ (List.mem_of_getElem? (i := 27) rfl))) (Or.inr (hw _ (List.mem_of_getElem? (i := 37) rfl))) (by decide) (t := .long) (t' := .long) (by decide) (by decide)))).other W49 (Or.inr (slot_ne (Or.inr (hw _ (List.mem_of_getElem? (i := 27) rfl))) (Or.inr (hw _ (List.mem_of_getElem? (i := 39) rfl))) (by decide) (t := .long) (t' := .double) (by decide) (by decide))))
  have f57 := (((((Fw29.other W33 (Or.inr (slot_ne (Or.inr (hw _ (List.mem_of_getElem? (i := 29) rfl))) (Or.inr (hw _ (List.mem_of_getElem? (i := 31) rfl))) (by decide) (t := .long) (t' := .long) (by decide) (by decide)))).other W37 (Or.inr (slot_ne (Or.inr (hw _ (List.mem_of_getElem? (i := 29) rfl))) (Or.inr (hw _ (List.mem_of_getElem? (i := 33) rfl))) (by decide) (t := .long) (t' := .long) (by decide) (by decide)))).other W41 (Or.inr (slot_ne (Or.inr (hw _ (List.mem_of_getElem? (i := 29) rfl))) (Or.inr (hw _ (List.mem_of_getElem? (i := 35) rfl))) (by decide) (t := .long) (t' := .long) (by decide) (by decide)))).other W45 (Or.inr (slot_ne (Or.inr (hw _ (List.mem_of_getElem? (i := 29) rfl))) (Or.inr (hw _ (List.mem_of_getElem? (i := 37) rfl))) (by decide) (t := .long) (t' := .long) (by decide) (by decide)))).other W49 (Or.inr (slot_ne (Or.inr (hw _ (List.mem_of_getElem? (i := 29) rfl))) (Or.inr (hw _ (List.mem_of_getElem? (i := 39) rfl))) (by decide) (t := .long) (t' := .double) (by decide) (by decide))))
  have f58 := ((((Fw33.other W37 (Or.inr (slot_ne (Or.inr (hw _ (List.mem_of_getElem? (i := 31) rfl))) (Or.inr (hw _ (List.mem_of_getElem? (i := 33) rfl))) (by decide) (t := .long) (t' := .long) (by decide) (by decide)))).other W41 (Or.inr (slot_ne (Or.inr (hw _ (List.mem_of_getElem? (i := 31) rfl))) (Or.inr (hw _ (List.mem_of_getElem? (i := 35) rfl))) (by decide) (t := .long) (t' := .long) (by decide) (by decide)))).other W45 (Or.inr (slot_ne (Or.inr (hw _ (List.mem_of_getElem? (i := 31) rfl))) (Or.inr (hw _ (List.mem_of_getElem? (i := 37) rfl))) (by decide) (t := .long) (t' := .long) (by decide) (by decide)))).other W49 (Or.inr (slot_ne (Or.inr (hw _ (List.mem_of_getElem? (i := 31) rfl))) (Or.inr (hw _ (List.mem_of_getElem? (i := 39) rfl))) (by decide) (t := .long) (t' := .double) (by decide) (by decide))))
  have f59 := (((Fw37.other W41 (Or.inr (slot_ne (Or.inr (hw _ (List.mem_of_getElem? (i := 33) rfl))) (Or.inr (hw _ (List.mem_of_getElem? (i := 35) rfl))) (by decide) (t := .long) (t' := .long) (by decide) (by decide)))).other W45 (Or.inr (slot_ne (Or.inr (hw _ (List.mem_of_getElem? (i := 33) rfl))) (Or.inr (hw _ (List.mem_of_getElem? (i := 37) rfl))) (by decide) (t := .long) (t' := .long) (by decide) (by decide)))).other W49 (Or.inr (slot_ne (Or.inr (hw _ (List.mem_of_getElem? (i := 33) rfl))) (Or.inr (hw _ (List.mem_of_getElem? (i := 39) rfl))) (by decide) (t := .long) (t' := .double) (by decide) (by decide))))
  have f60 := ((Fw41.other W45 (Or.inr (slot_ne (Or.inr (hw _ (List.mem_of_getElem? (i := 35) rfl))) (Or.inr (hw _ (List.mem_of_getElem? (i := 37) rfl))) (by decide) (t := .long) (t' := .long) (by decide) (by decide)))).other W49 (Or.inr (slot_ne (Or.inr (hw _ (List.mem_of_getElem? (i := 35) rfl))) (Or.inr (hw _ (List.mem_of_getElem? (i := 39) rfl))) (by decide) (t := .long) (t' := .double) (by decide) (by decide))))
  have f61 := (Fw45.other W49 (Or.inr (slot_ne (Or.inr (hw _ (List.mem_of_getElem? (i := 37) rfl))) (Or.inr (hw _ (List.mem_of_getElem? (i := 39) rfl))) (by decide) (t := .long) (t' := .double) (by decide) (by decide))))
  obtain ⟨fs, hr, hrun, hended, hW, hsame⟩ := X49.leave (v := none) (fun _ => rfl)
  refine ⟨_, _, ?_, hrun, hended, _, _, rfl, ?_, ⟨_, rfl⟩, hW, hsame.mono (by decide) (by decide)⟩
  · rw [← hG0]
    refine K49 _ ?_
    exact X49.returnOut hx Bd.returns (hb hby d1_74) hr
  · show Q1 Z a0 x1 x2 x3 x4 x5 x6 x7 x8 x9 x10 x11 x12 u_lessons u_roomClashes u_teacherClashes u_curriculumClashes u_unavailable u_unqualified u_splitTeacher u_wrongRoom u_wrongShift u_placed u_preferred u_loadStddev h0 n0 _ T49.heap _
    rw [e49]
    exact ⟨rfl, N49, KP49, f50, f51, f52, f53, f54, f55, f56, f57, f58, f59, f60, f61, Fw49⟩
theorem d4_0 : decode prog_45_method_3_code 0 = .ok (.aload_n 0, 1) := by decide +kernel
theorem d4_1 : decode prog_45_method_3_code 1 = .ok (.getfield 37, 3) := by decide +kernel
theorem d4_4 : decode prog_45_method_3_code 4 = .ok (.lconst 0, 1) := by decide +kernel
theorem d4_5 : decode prog_45_method_3_code 5 = .ok (.lcmp, 1) := by decide +kernel
theorem d4_6 : decode prog_45_method_3_code 6 = .ok (.ifCond .ne 7, 3) := by decide +kernel
theorem d4_9 : decode prog_45_method_3_code 9 = .ok (.dconst 0, 1) := by decide +kernel
theorem d4_10 : decode prog_45_method_3_code 10 = .ok (.goto 18, 3) := by decide +kernel
theorem d4_13 : decode prog_45_method_3_code 13 = .ok (.ldc2_w 47, 3) := by decide +kernel
theorem d4_16 : decode prog_45_method_3_code 16 = .ok (.aload_n 0, 1) := by decide +kernel
theorem d4_17 : decode prog_45_method_3_code 17 = .ok (.getfield 40, 3) := by decide +kernel
theorem d4_20 : decode prog_45_method_3_code 20 = .ok (.l2d, 1) := by decide +kernel
theorem d4_21 : decode prog_45_method_3_code 21 = .ok (.dmul, 1) := by decide +kernel
theorem d4_22 : decode prog_45_method_3_code 22 = .ok (.aload_n 0, 1) := by decide +kernel
theorem d4_23 : decode prog_45_method_3_code 23 = .ok (.getfield 37, 3) := by decide +kernel
theorem d4_26 : decode prog_45_method_3_code 26 = .ok (.l2d, 1) := by decide +kernel
theorem d4_27 : decode prog_45_method_3_code 27 = .ok (.ddiv, 1) := by decide +kernel
theorem d4_28 : decode prog_45_method_3_code 28 = .ok (.dreturn, 1) := by decide +kernel
theorem ef_rm4z (m : MethodId) (a0 : Addr) : entryFrame m #[(.ref a0)] 1 = (mkF m 0 #[.val (.ref a0)] []) := by first | (simp [entryFrame, mkF, argsToLocals, Value.category]; done) | rfl
def Q4z (Z : State) (a0 : Addr) (wp : Int64) (h0 : Heap) (n0 : Nat) (v : Option Value) (h : Heap) (L : List Loc) : Prop := v = some (.double FP.dconst0) ∧ Fr n0 L ∧ h = h0
set_option maxRecDepth 65536 in
set_option maxHeartbeats 40000000 in
theorem rm4z (l : Launch) (Z : State) (aa : Array Value) (hw : ∀ d ∈ tables_1, d.before aa Z = true) (ws : List Jvm.Cond) (a0 : Addr) (wp : Int64) (h0 : Heap) (n0 : Nat) (Z0 : n0 ≤ h0.size) (F_wp : Fld Z h0 a0 "com/example/horarium/horarium/engine/CampusScore" "placed" "J" (.long wp)) (hz : wp = 0) :
    MetFree l (⟨"com/example/horarium/horarium/engine/CampusScore", "preferredShare", "()D"⟩ : MethodName) (head1 (Jvm.Cond.code (⟨"com/example/horarium/horarium/engine/CampusScore", "preferredShare", "()D"⟩ : MethodName) prog_45_method_3_code 1 (some .double) :: ws) ({ frames := 0, cells := 0, slots := 0, locals := 0 } : Room)) (fun a U => a = #[(.ref a0)] ∧ Z.Warmed39 U.vm ∧ U.heap = h0) (fun _ _ _ _ _ => True) (fun _ U o U' => ∃ v L, o = .returned v ∧ Q4z Z a0 wp h0 n0 v U'.heap L ∧ FrameEnd U o U' L ({ frames := 0, cells := 0, slots := 0, locals := 0 } : Room).cells ({ frames := 0, cells := 0, slots := 0, locals := 0 } : Room).slots) := by
  refine MetFree.of_bodySF (plainFor_of_name pn_com_example_horarium_horarium_engine_CampusScore) hisR ?_
  intro p e s m args below meth c s₁ Bd hml0 hP hK
  obtain ⟨rfl, hZ, hh⟩ := hP
  have hx := Bd.exec
  have hby := Bd.bytes
  have hml : c.maxLocals = 1 := hml0
  have hown : s.vm.findClass "com/example/horarium/horarium/engine/CampusScore" = some m.cls := findClass_of_methodNamed Bd.named
  have hnm := (name_of_methodNamed Bd.named Bd.method).1
  have X0 : Stand p l e ({ frames := 0, cells := 0, slots := 0, locals := 0 } : Room) s m #[(.ref a0)] below meth c s₁ [] 0 0 := Stand.of_body Bd
  have e0 : s₁.heap = h0 := by rw [← hh, Bd.state]; rfl
  have N0 := Fr.nil n0
  obtain ⟨G0, hG0⟩ : ∃ G, G = s₁.setTop (entryFrame m #[(.ref a0)] 1) := ⟨_, rfl⟩
  have K0 : ∀ t, Steps p.tables e below (s₁.setTop (mkF m 0 #[.val (.ref a0)] [])) t → Steps p.tables e below G0 t := fun t k => by rw [hG0]; exact castTop (ef_rm4z m a0) k
  have K1 : ∀ t, Steps p.tables e below (s₁.setTop (mkF m 1 #[.val (.ref a0)] [(.ref a0)])) t → Steps p.tables e below G0 t := by
    intro t kt
    refine K0 t ?_
    refine XS.aloadN X0.here hx rfl (hb hby d4_0) rfl rfl ?_
    show Steps p.tables e below (s₁.setTop (mkF m 1 #[.val (.ref a0)] [(.ref a0)])) _
    exact kt
  obtain ⟨T2, X2, e2, st2⟩ := getF X0 hx hZ hown (host := "") (Or.inl (hw _ (List.mem_of_getElem? (i := 34) rfl))) Via.refl e0 F_wp (g := (mkF m 1 #[.val (.ref a0)] [(.ref a0)])) rfl rfl (hb hby d4_1)
  have K2 : ∀ t, Steps p.tables e below (T2.setTop (mkF m 4 #[.val (.ref a0)] [(.long wp)])) t → Steps p.tables e below G0 t := fun t kt => K1 t (st2 _ kt)
  have K3 : ∀ t, Steps p.tables e below (T2.setTop (mkF m 28 #[.val (.ref a0)] [(.double FP.dconst0)])) t → Steps p.tables e below G0 t := by
    intro t kt
    refine K2 t ?_
    refine XS.lconst X2.here hx rfl (hb hby d4_4) ?_
    show Steps p.tables e below (T2.setTop (mkF m 5 #[.val (.ref a0)] [(.long (0 : Int64)), (.long wp)])) _
    refine XS.lcmp X2.here hx rfl (hb hby d4_5) rfl ?_
    show Steps p.tables e below (T2.setTop (mkF m 6 #[.val (.ref a0)] [(.int (lcmpW wp (0 : Int64)))])) _
    refine XS.ifNo X2.here hx rfl (hb hby d4_6) rfl ((if0 _ _).trans (teq ((lw_eq _ _).mpr hz)).2) ?_
    show Steps p.tables e below (T2.setTop (mkF m 9 #[.val (.ref a0)] [])) _
    refine XS.dconst0 X2.here hx rfl (hb hby d4_9) rfl ?_
    show Steps p.tables e below (T2.setTop (mkF m 10 #[.val (.ref a0)] [(.double FP.dconst0)])) _
    refine XS.goto X2.here hx rfl (pc0 := 10) (pc' := 28) rfl (hb hby d4_10) (by decide) (by decide) ?_
    show Steps p.tables e below (T2.setTop (mkF m 28 #[.val (.ref a0)] [(.double FP.dconst0)])) _
    exact kt
  obtain ⟨fs, hr, hrun, hended, hW, hsame⟩ := X2.leave (v := some (.double FP.dconst0)) (fun h => by rw [Bd.returns] at h; cases h)
  refine ⟨_, _, ?_, hrun, hended, _, _, rfl, ?_, ⟨_, rfl⟩, hW, hsame.mono (by decide) (by decide)⟩
  · rw [← hG0]
    refine K3 _ ?_
    exact retOut X2 hx (t := .double) Bd.returns rfl (Or.inr (Or.inr (Or.inl ⟨rfl, rfl, _, rfl⟩))) (hb hby d4_28) hr
  · show Q4z Z a0 wp h0 n0 _ T2.heap _
    rw [e2]
    exact ⟨rfl, N0, rfl⟩
theorem ef_rm4 (m : MethodId) (a0 : Addr) : entryFrame m #[(.ref a0)] 1 = (mkF m 0 #[.val (.ref a0)] []) := by first | (simp [entryFrame, mkF, argsToLocals, Value.category]; done) | rfl
def Q4 (Z : State) (a0 : Addr) (wp : Int64) (wr : Int64) (h0 : Heap) (n0 : Nat) (v : Option Value) (h : Heap) (L : List Loc) : Prop := v = some (.double (FP.ddiv (FP.dmul (4636737291354636288 : UInt64) (FP.l2d wr)) (FP.l2d wp))) ∧ Fr n0 L ∧ h = h0
set_option maxRecDepth 65536 in
set_option maxHeartbeats 40000000 in
theorem rm4 (l : Launch) (Z : State) (aa : Array Value) (hw : ∀ d ∈ tables_1, d.before aa Z = true) (ws : List Jvm.Cond) (a0 : Addr) (wp : Int64) (wr : Int64) (h0 : Heap) (n0 : Nat) (Z0 : n0 ≤ h0.size) (F_wp : Fld Z h0 a0 "com/example/horarium/horarium/engine/CampusScore" "placed" "J" (.long wp)) (F_wr : Fld Z h0 a0 "com/example/horarium/horarium/engine/CampusScore" "preferred" "J" (.long wr)) (hz : ¬ wp = 0) (n1 : NoNaN64 (FP.dmul (4636737291354636288 : UInt64) (FP.l2d wr))) (n2 : NoNaN64 (FP.ddiv (FP.dmul (4636737291354636288 : UInt64) (FP.l2d wr)) (FP.l2d wp))) :
    MetFree l (⟨"com/example/horarium/horarium/engine/CampusScore", "preferredShare", "()D"⟩ : MethodName) (head1 (Jvm.Cond.code (⟨"com/example/horarium/horarium/engine/CampusScore", "preferredShare", "()D"⟩ : MethodName) prog_45_method_3_code 1 (some .double) :: ws) ({ frames := 0, cells := 0, slots := 0, locals := 0 } : Room)) (fun a U => a = #[(.ref a0)] ∧ Z.Warmed39 U.vm ∧ U.heap = h0) (fun _ _ _ _ _ => True) (fun _ U o U' => ∃ v L, o = .returned v ∧ Q4 Z a0 wp wr h0 n0 v U'.heap L ∧ FrameEnd U o U' L ({ frames := 0, cells := 0, slots := 0, locals := 0 } : Room).cells ({ frames := 0, cells := 0, slots := 0, locals := 0 } : Room).slots) := by
  refine MetFree.of_bodySF (plainFor_of_name pn_com_example_horarium_horarium_engine_CampusScore) hisR ?_
  intro p e s m args below meth c s₁ Bd hml0 hP hK
  obtain ⟨rfl, hZ, hh⟩ := hP
  have hx := Bd.exec
  have hby := Bd.bytes
  have hml : c.maxLocals = 1 := hml0
  have hown : s.vm.findClass "com/example/horarium/horarium/engine/CampusScore" = some m.cls := findClass_of_methodNamed Bd.named
  have hnm := (name_of_methodNamed Bd.named Bd.method).1
  have X0 : Stand p l e ({ frames := 0, cells := 0, slots := 0, locals := 0 } : Room) s m #[(.ref a0)] below meth c s₁ [] 0 0 := Stand.of_body Bd
  have e0 : s₁.heap = h0 := by rw [← hh, Bd.state]; rfl
  have N0 := Fr.nil n0
  obtain ⟨G0, hG0⟩ : ∃ G, G = s₁.setTop (entryFrame m #[(.ref a0)] 1) := ⟨_, rfl⟩
  have K0 : ∀ t, Steps p.tables e below (s₁.setTop (mkF m 0 #[.val (.ref a0)] [])) t → Steps p.tables e below G0 t := fun t k => by rw [hG0]; exact castTop (ef_rm4 m a0) k
  have K1 : ∀ t, Steps p.tables e below (s₁.setTop (mkF m 1 #[.val (.ref a0)] [(.ref a0)])) t → Steps p.tables e below G0 t := by
    intro t kt
    refine K0 t ?_
    refine XS.aloadN X0.here hx rfl (hb hby d4_0) rfl rfl ?_
    show Steps p.tables e below (s₁.setTop (mkF m 1 #[.val (.ref a0)] [(.ref a0)])) _
    exact kt
  obtain ⟨T2, X2, e2, st2⟩ := getF X0 hx hZ hown (host := "") (Or.inl (hw _ (List.mem_of_getElem? (i := 34) rfl))) Via.refl e0 F_wp (g := (mkF m 1 #[.val (.ref a0)] [(.ref a0)])) rfl rfl (hb hby d4_1)
  have K2 : ∀ t, Steps p.tables e below (T2.setTop (mkF m 4 #[.val (.ref a0)] [(.long wp)])) t → Steps p.tables e below G0 t := fun t kt => K1 t (st2 _ kt)
  have K3 : ∀ t, Steps p.tables e below (T2.setTop (mkF m 17 #[.val (.ref a0)] [(.ref a0), (.double (4636737291354636288 : UInt64))])) t → Steps p.tables e below G0 t := by
    intro t kt
    refine K2 t ?_
    refine XS.lconst X2.here hx rfl (hb hby d4_4) ?_
    show Steps p.tables e below (T2.setTop (mkF m 5 #[.val (.ref a0)] [(.long (0 : Int64)), (.long wp)])) _
    refine XS.lcmp X2.here hx rfl (hb hby d4_5) rfl ?_
    show Steps p.tables e below (T2.setTop (mkF m 6 #[.val (.ref a0)] [(.int (lcmpW wp (0 : Int64)))])) _
    refine XS.ifYes X2.here hx rfl (pc0 := 6) (pc' := 13) rfl (hb hby d4_6) rfl ((if0 _ _).trans (feq (fun q => hz ((lw_eq _ _).mp q))).2) (by decide) (by decide) ?_
    show Steps p.tables e below (T2.setTop (mkF m 13 #[.val (.ref a0)] [])) _
    refine X2.ldc2DoubleC hx hown (mvT hZ (hw _ (List.mem_of_getElem? (i := 45) rfl))) (g := (mkF m 13 #[.val (.ref a0)] [])) rfl (hb hby d4_13) _ ?_
    show Steps p.tables e below (T2.setTop (mkF m 16 #[.val (.ref a0)] [(.double (4636737291354636288 : UInt64))])) _
    refine XS.aloadN X2.here hx rfl (hb hby d4_16) rfl rfl ?_
    show Steps p.tables e below (T2.setTop (mkF m 17 #[.val (.ref a0)] [(.ref a0), (.double (4636737291354636288 : UInt64))])) _
    exact kt
  obtain ⟨T4, X4, e4, st4⟩ := getF X2 hx hZ hown (host := "") (Or.inl (hw _ (List.mem_of_getElem? (i := 36) rfl))) Via.refl e2 F_wr (g := (mkF m 17 #[.val (.ref a0)] [(.ref a0), (.double (4636737291354636288 : UInt64))])) rfl rfl (hb hby d4_17)
  have K4 : ∀ t, Steps p.tables e below (T4.setTop (mkF m 20 #[.val (.ref a0)] [(.long wr), (.double (4636737291354636288 : UInt64))])) t → Steps p.tables e below G0 t := fun t kt => K3 t (st4 _ kt)
  have K5 : ∀ t, Steps p.tables e below (T4.setTop (mkF m 23 #[.val (.ref a0)] [(.ref a0), (.double (FP.dmul (4636737291354636288 : UInt64) (FP.l2d wr)))])) t → Steps p.tables e below G0 t := by
    intro t kt
    refine K4 t ?_
    refine XS.l2dS X4.here hx rfl (hb hby d4_20) rfl rfl ?_
    show Steps p.tables e below (T4.setTop (mkF m 21 #[.val (.ref a0)] [(.double (FP.l2d wr)), (.double (4636737291354636288 : UInt64))])) _
    refine XS.dmulS X4.here hx rfl (hb hby d4_21) rfl n1 rfl ?_
    show Steps p.tables e below (T4.setTop (mkF m 22 #[.val (.ref a0)] [(.double (FP.dmul (4636737291354636288 : UInt64) (FP.l2d wr)))])) _
    refine XS.aloadN X4.here hx rfl (hb hby d4_22) rfl rfl ?_
    show Steps p.tables e below (T4.setTop (mkF m 23 #[.val (.ref a0)] [(.ref a0), (.double (FP.dmul (4636737291354636288 : UInt64) (FP.l2d wr)))])) _
    exact kt
  obtain ⟨T6, X6, e6, st6⟩ := getF X4 hx hZ hown (host := "") (Or.inl (hw _ (List.mem_of_getElem? (i := 34) rfl))) Via.refl e4 F_wp (g := (mkF m 23 #[.val (.ref a0)] [(.ref a0), (.double (FP.dmul (4636737291354636288 : UInt64) (FP.l2d wr)))])) rfl rfl (hb hby d4_23)
  have K6 : ∀ t, Steps p.tables e below (T6.setTop (mkF m 26 #[.val (.ref a0)] [(.long wp), (.double (FP.dmul (4636737291354636288 : UInt64) (FP.l2d wr)))])) t → Steps p.tables e below G0 t := fun t kt => K5 t (st6 _ kt)
  have K7 : ∀ t, Steps p.tables e below (T6.setTop (mkF m 28 #[.val (.ref a0)] [(.double (FP.ddiv (FP.dmul (4636737291354636288 : UInt64) (FP.l2d wr)) (FP.l2d wp)))])) t → Steps p.tables e below G0 t := by
    intro t kt
    refine K6 t ?_
    refine XS.l2dS X6.here hx rfl (hb hby d4_26) rfl rfl ?_
    show Steps p.tables e below (T6.setTop (mkF m 27 #[.val (.ref a0)] [(.double (FP.l2d wp)), (.double (FP.dmul (4636737291354636288 : UInt64) (FP.l2d wr)))])) _
    refine XS.ddivS X6.here hx rfl (hb hby d4_27) rfl n2 rfl ?_
    show Steps p.tables e below (T6.setTop (mkF m 28 #[.val (.ref a0)] [(.double (FP.ddiv (FP.dmul (4636737291354636288 : UInt64) (FP.l2d wr)) (FP.l2d wp)))])) _
    exact kt
  obtain ⟨fs, hr, hrun, hended, hW, hsame⟩ := X6.leave (v := some (.double (FP.ddiv (FP.dmul (4636737291354636288 : UInt64) (FP.l2d wr)) (FP.l2d wp)))) (fun h => by rw [Bd.returns] at h; cases h)
  refine ⟨_, _, ?_, hrun, hended, _, _, rfl, ?_, ⟨_, rfl⟩, hW, hsame.mono (by decide) (by decide)⟩
  · rw [← hG0]
    refine K7 _ ?_
    exact retOut X6 hx (t := .double) Bd.returns rfl (Or.inr (Or.inr (Or.inl ⟨rfl, rfl, _, rfl⟩))) (hb hby d4_28) hr
  · show Q4 Z a0 wp wr h0 n0 _ T6.heap _
    rw [e6]
    exact ⟨rfl, N0, rfl⟩
theorem pn_com_example_horarium_horarium_engine_CampusScorePreferredSharePinLaw : plainName "com/example/horarium/horarium/engine/CampusScorePreferredSharePinLaw" = true := by first | (simp [plainName, overriddenIn]; done) | decide +kernel
theorem pd_PJJJJJJJJJJJDQV : parseMethodDescriptor "(JJJJJJJJJJJD)V" = some ⟨[.long, .long, .long, .long, .long, .long, .long, .long, .long, .long, .long, .double], none⟩ := by decide +kernel
theorem pd_PQD : parseMethodDescriptor "()D" = some ⟨[], some .double⟩ := by decide +kernel
theorem ef_rm0 (m : MethodId) (qa : Int64) (qb : Int64) (qc : Int64) (d : Int32) (fl : Int32) : entryFrame m #[(.long qa), (.long qb), (.long qc), (.int d), (.int fl)] maxLocals = (mkF m 0 #[.val (.long qa), .second, .val (.long qb), .second, .val (.long qc), .second, .val (.int d), .val (.int fl), .unset, .unset, .unset, .unset, .unset, .unset, .unset, .unset, .unset, .unset, .unset, .unset, .unset, .unset, .unset, .unset, .unset] []) := by first | (simp [entryFrame, mkF, argsToLocals, Value.category, maxLocals]; done) | rfl
def Q0 (Z : State) (qa : Int64) (qb : Int64) (qc : Int64) (d : Int32) (fl : Int32) (h0 : Heap) (n0 : Nat) (v : Option Value) (h : Heap) (L : List Loc) : Prop := v = some (.int 1) ∧ Fr n0 L
set_option maxRecDepth 65536 in
set_option maxHeartbeats 40000000 in
theorem rm0 (l : Launch) (Z : State) (aa : Array Value) (hw : ∀ d ∈ tables_1, d.before aa Z = true) (ws : List Jvm.Cond) (qa : Int64) (qb : Int64) (qc : Int64) (d : Int32) (fl : Int32) (h0 : Heap) (n0 : Nat) (Z0 : n0 ≤ h0.size) :
    MetFree l x (head1 (Jvm.Cond.code x code maxLocals ret :: ws) room_1) (fun a U => a = #[(.long qa), (.long qb), (.long qc), (.int d), (.int fl)] ∧ Z.Warmed39 U.vm ∧ U.heap = h0) (fun _ _ _ _ _ => True) (fun _ U o U' => ∃ v L, o = .returned v ∧ Q0 Z qa qb qc d fl h0 n0 v U'.heap L ∧ FrameEnd U o U' L room_1.cells room_1.slots) := by
  refine MetFree.of_bodySF (plainFor_of_name pn_com_example_horarium_horarium_engine_CampusScorePreferredSharePinLaw) hisR ?_
  intro p e s m args below meth c s₁ Bd hml0 hP hK
  obtain ⟨rfl, hZ, hh⟩ := hP
  have hx := Bd.exec
  have hby := Bd.bytes
  have hml : c.maxLocals = 25 := hml0
  have hown : s.vm.findClass "com/example/horarium/horarium/engine/CampusScorePreferredSharePinLaw" = some m.cls := findClass_of_methodNamed Bd.named
  have hnm := (name_of_methodNamed Bd.named Bd.method).1
  have X0 : Stand p l e room_1 s m #[(.long qa), (.long qb), (.long qc), (.int d), (.int fl)] below meth c s₁ [] 0 0 := Stand.of_body Bd
  have e0 : s₁.heap = h0 := by rw [← hh, Bd.state]; rfl
  have N0 := Fr.nil n0
  obtain ⟨G0, hG0⟩ : ∃ G, G = s₁.setTop (entryFrame m #[(.long qa), (.long qb), (.long qc), (.int d), (.int fl)] maxLocals) := ⟨_, rfl⟩
  have K0 : ∀ t, Steps p.tables e below (s₁.setTop (mkF m 0 #[.val (.long qa), .second, .val (.long qb), .second, .val (.long qc), .second, .val (.int d), .val (.int fl), .unset, .unset, .unset, .unset, .unset, .unset, .unset, .unset, .unset, .unset, .unset, .unset, .unset, .unset, .unset, .unset, .unset] [])) t → Steps p.tables e below G0 t := fun t k => by rw [hG0]; exact castTop (ef_rm0 m qa qb qc d fl) k
  have K1 : ∀ t, Steps p.tables e below (s₁.setTop (mkF m 11 #[.val (.long qa), .second, .val (.long qb), .second, .val (.long qc), .second, .val (.int d), .val (.int fl), .val (.long (qa &&& (4294967295 : Int64))), .second, .unset, .unset, .unset, .unset, .unset, .unset, .unset, .unset, .unset, .unset, .unset, .unset, .unset, .unset, .unset] [(.int (fl &&& (3 : Int32)))])) t → Steps p.tables e below G0 t := by
    intro t kt
    refine K0 t ?_
    refine XS.lloadN X0.here hx rfl (hb hby at_0) rfl ?_
    show Steps p.tables e below (s₁.setTop (mkF m 1 #[.val (.long qa), .second, .val (.long qb), .second, .val (.long qc), .second, .val (.int d), .val (.int fl), .unset, .unset, .unset, .unset, .unset, .unset, .unset, .unset, .unset, .unset, .unset, .unset, .unset, .unset, .unset, .unset, .unset] [(.long qa)])) _
    refine X0.ldc2Long hx hown (mvT hZ (hw _ (List.mem_of_getElem? (i := 0) rfl))) (g := (mkF m 1 #[.val (.long qa), .second, .val (.long qb), .second, .val (.long qc), .second, .val (.int d), .val (.int fl), .unset, .unset, .unset, .unset, .unset, .unset, .unset, .unset, .unset, .unset, .unset, .unset, .unset, .unset, .unset, .unset, .unset] [(.long qa)])) rfl (hb hby at_1) _ ?_
    show Steps p.tables e below (s₁.setTop (mkF m 4 #[.val (.long qa), .second, .val (.long qb), .second, .val (.long qc), .second, .val (.int d), .val (.int fl), .unset, .unset, .unset, .unset, .unset, .unset, .unset, .unset, .unset, .unset, .unset, .unset, .unset, .unset, .unset, .unset, .unset] [(.long (4294967295 : Int64)), (.long qa)])) _
    refine XS.land X0.here hx rfl (hb hby at_4) rfl ?_
    show Steps p.tables e below (s₁.setTop (mkF m 5 #[.val (.long qa), .second, .val (.long qb), .second, .val (.long qc), .second, .val (.int d), .val (.int fl), .unset, .unset, .unset, .unset, .unset, .unset, .unset, .unset, .unset, .unset, .unset, .unset, .unset, .unset, .unset, .unset, .unset] [(.long (qa &&& (4294967295 : Int64)))])) _
    refine XS.lstore X0.here hx rfl (hb hby at_5) rfl (l' := #[.val (.long qa), .second, .val (.long qb), .second, .val (.long qc), .second, .val (.int d), .val (.int fl), .val (.long (qa &&& (4294967295 : Int64))), .second, .unset, .unset, .unset, .unset, .unset, .unset, .unset, .unset, .unset, .unset, .unset, .unset, .unset, .unset, .unset]) rfl ?_
    show Steps p.tables e below (s₁.setTop (mkF m 7 #[.val (.long qa), .second, .val (.long qb), .second, .val (.long qc), .second, .val (.int d), .val (.int fl), .val (.long (qa &&& (4294967295 : Int64))), .second, .unset, .unset, .unset, .unset, .unset, .unset, .unset, .unset, .unset, .unset, .unset, .unset, .unset, .unset, .unset] [])) _
    refine XS.iload X0.here hx rfl (hb hby at_7) rfl ?_
    show Steps p.tables e below (s₁.setTop (mkF m 9 #[.val (.long qa), .second, .val (.long qb), .second, .val (.long qc), .second, .val (.int d), .val (.int fl), .val (.long (qa &&& (4294967295 : Int64))), .second, .unset, .unset, .unset, .unset, .unset, .unset, .unset, .unset, .unset, .unset, .unset, .unset, .unset, .unset, .unset] [(.int fl)])) _
    refine XS.iconst X0.here hx rfl (hb hby at_9) ?_
    show Steps p.tables e below (s₁.setTop (mkF m 10 #[.val (.long qa), .second, .val (.long qb), .second, .val (.long qc), .second, .val (.int d), .val (.int fl), .val (.long (qa &&& (4294967295 : Int64))), .second, .unset, .unset, .unset, .unset, .unset, .unset, .unset, .unset, .unset, .unset, .unset, .unset, .unset, .unset, .unset] [(.int (3 : Int32)), (.int fl)])) _
    refine XS.iand X0.here hx rfl (hb hby at_10) rfl ?_
    show Steps p.tables e below (s₁.setTop (mkF m 11 #[.val (.long qa), .second, .val (.long qb), .second, .val (.long qc), .second, .val (.int d), .val (.int fl), .val (.long (qa &&& (4294967295 : Int64))), .second, .unset, .unset, .unset, .unset, .unset, .unset, .unset, .unset, .unset, .unset, .unset, .unset, .unset, .unset, .unset] [(.int (fl &&& (3 : Int32)))])) _
    exact kt
  have K2 : ∀ t, Steps p.tables e below (s₁.setTop (mkF m 17 #[.val (.long qa), .second, .val (.long qb), .second, .val (.long qc), .second, .val (.int d), .val (.int fl), .val (.long (own_pl qa fl)), .second, .unset, .unset, .unset, .unset, .unset, .unset, .unset, .unset, .unset, .unset, .unset, .unset, .unset, .unset, .unset] [])) t → Steps p.tables e below G0 t := by
    by_cases hc3 : (fl &&& (3 : Int32)) = (0 : Int32)
    ·
      have K4 : ∀ t, Steps p.tables e below (s₁.setTop (mkF m 17 #[.val (.long qa), .second, .val (.long qb), .second, .val (.long qc), .second, .val (.int d), .val (.int fl), .val (.long (0 : Int64)), .second, .unset, .unset, .unset, .unset, .unset, .unset, .unset, .unset, .unset, .unset, .unset, .unset, .unset, .unset, .unset] [])) t → Steps p.tables e below G0 t := by
        intro t kt
        refine K1 t ?_
        refine XS.ifNo X0.here hx rfl (hb hby at_11) rfl ((if0 _ _).trans (teq hc3).2) ?_
        show Steps p.tables e below (s₁.setTop (mkF m 14 #[.val (.long qa), .second, .val (.long qb), .second, .val (.long qc), .second, .val (.int d), .val (.int fl), .val (.long (qa &&& (4294967295 : Int64))), .second, .unset, .unset, .unset, .unset, .unset, .unset, .unset, .unset, .unset, .unset, .unset, .unset, .unset, .unset, .unset] [])) _
        refine XS.lconst X0.here hx rfl (hb hby at_14) ?_
        show Steps p.tables e below (s₁.setTop (mkF m 15 #[.val (.long qa), .second, .val (.long qb), .second, .val (.long qc), .second, .val (.int d), .val (.int fl), .val (.long (qa &&& (4294967295 : Int64))), .second, .unset, .unset, .unset, .unset, .unset, .unset, .unset, .unset, .unset, .unset, .unset, .unset, .unset, .unset, .unset] [(.long (0 : Int64))])) _
        refine XS.lstore X0.here hx rfl (hb hby at_15) rfl (l' := #[.val (.long qa), .second, .val (.long qb), .second, .val (.long qc), .second, .val (.int d), .val (.int fl), .val (.long (0 : Int64)), .second, .unset, .unset, .unset, .unset, .unset, .unset, .unset, .unset, .unset, .unset, .unset, .unset, .unset, .unset, .unset]) rfl ?_
        show Steps p.tables e below (s₁.setTop (mkF m 17 #[.val (.long qa), .second, .val (.long qb), .second, .val (.long qc), .second, .val (.int d), .val (.int fl), .val (.long (0 : Int64)), .second, .unset, .unset, .unset, .unset, .unset, .unset, .unset, .unset, .unset, .unset, .unset, .unset, .unset, .unset, .unset] [])) _
        exact kt
      rw [own_pl, if_pos hc3]
      exact K4
    ·
      have K5 : ∀ t, Steps p.tables e below (s₁.setTop (mkF m 17 #[.val (.long qa), .second, .val (.long qb), .second, .val (.long qc), .second, .val (.int d), .val (.int fl), .val (.long (qa &&& (4294967295 : Int64))), .second, .unset, .unset, .unset, .unset, .unset, .unset, .unset, .unset, .unset, .unset, .unset, .unset, .unset, .unset, .unset] [])) t → Steps p.tables e below G0 t := by
        intro t kt
        refine K1 t ?_
        refine XS.ifYes X0.here hx rfl (pc0 := 11) (pc' := 17) rfl (hb hby at_11) rfl ((if0 _ _).trans (feq hc3).2) (by decide) (by decide) ?_
        show Steps p.tables e below (s₁.setTop (mkF m 17 #[.val (.long qa), .second, .val (.long qb), .second, .val (.long qc), .second, .val (.int d), .val (.int fl), .val (.long (qa &&& (4294967295 : Int64))), .second, .unset, .unset, .unset, .unset, .unset, .unset, .unset, .unset, .unset, .unset, .unset, .unset, .unset, .unset, .unset] [])) _
        exact kt
      rw [own_pl, if_neg hc3]
      exact K5
  have hpl := own_plI qa fl
  obtain ⟨pl, h_pl⟩ : ∃ z, z = (own_pl qa fl) := ⟨_, rfl⟩
  rw [← h_pl] at K2
  rw [← h_pl] at hpl
  have K6 : ∀ t, Steps p.tables e below (s₁.setTop (mkF m 29 #[.val (.long qa), .second, .val (.long qb), .second, .val (.long qc), .second, .val (.int d), .val (.int fl), .val (.long pl), .second, .val (.long ((qb &&& (9223372036854775807 : Int64)) % (pl + (1 : Int64)))), .second, .unset, .unset, .unset, .unset, .unset, .unset, .unset, .unset, .unset, .unset, .unset, .unset, .unset] [])) t → Steps p.tables e below G0 t := by
    intro t kt
    refine K2 t ?_
    refine XS.lloadN X0.here hx rfl (hb hby at_17) rfl ?_
    show Steps p.tables e below (s₁.setTop (mkF m 18 #[.val (.long qa), .second, .val (.long qb), .second, .val (.long qc), .second, .val (.int d), .val (.int fl), .val (.long pl), .second, .unset, .unset, .unset, .unset, .unset, .unset, .unset, .unset, .unset, .unset, .unset, .unset, .unset, .unset, .unset] [(.long qb)])) _
    refine X0.ldc2Long hx hown (mvT hZ (hw _ (List.mem_of_getElem? (i := 1) rfl))) (g := (mkF m 18 #[.val (.long qa), .second, .val (.long qb), .second, .val (.long qc), .second, .val (.int d), .val (.int fl), .val (.long pl), .second, .unset, .unset, .unset, .unset, .unset, .unset, .unset, .unset, .unset, .unset, .unset, .unset, .unset, .unset, .unset] [(.long qb)])) rfl (hb hby at_18) _ ?_
    show Steps p.tables e below (s₁.setTop (mkF m 21 #[.val (.long qa), .second, .val (.long qb), .second, .val (.long qc), .second, .val (.int d), .val (.int fl), .val (.long pl), .second, .unset, .unset, .unset, .unset, .unset, .unset, .unset, .unset, .unset, .unset, .unset, .unset, .unset, .unset, .unset] [(.long (9223372036854775807 : Int64)), (.long qb)])) _
    refine XS.land X0.here hx rfl (hb hby at_21) rfl ?_
    show Steps p.tables e below (s₁.setTop (mkF m 22 #[.val (.long qa), .second, .val (.long qb), .second, .val (.long qc), .second, .val (.int d), .val (.int fl), .val (.long pl), .second, .unset, .unset, .unset, .unset, .unset, .unset, .unset, .unset, .unset, .unset, .unset, .unset, .unset, .unset, .unset] [(.long (qb &&& (9223372036854775807 : Int64)))])) _
    refine XS.lload X0.here hx rfl (hb hby at_22) rfl ?_
    show Steps p.tables e below (s₁.setTop (mkF m 24 #[.val (.long qa), .second, .val (.long qb), .second, .val (.long qc), .second, .val (.int d), .val (.int fl), .val (.long pl), .second, .unset, .unset, .unset, .unset, .unset, .unset, .unset, .unset, .unset, .unset, .unset, .unset, .unset, .unset, .unset] [(.long pl), (.long (qb &&& (9223372036854775807 : Int64)))])) _
    refine XS.lconst X0.here hx rfl (hb hby at_24) ?_
    show Steps p.tables e below (s₁.setTop (mkF m 25 #[.val (.long qa), .second, .val (.long qb), .second, .val (.long qc), .second, .val (.int d), .val (.int fl), .val (.long pl), .second, .unset, .unset, .unset, .unset, .unset, .unset, .unset, .unset, .unset, .unset, .unset, .unset, .unset, .unset, .unset] [(.long (1 : Int64)), (.long pl), (.long (qb &&& (9223372036854775807 : Int64)))])) _
    refine XS.ladd X0.here hx rfl (hb hby at_25) rfl ?_
    show Steps p.tables e below (s₁.setTop (mkF m 26 #[.val (.long qa), .second, .val (.long qb), .second, .val (.long qc), .second, .val (.int d), .val (.int fl), .val (.long pl), .second, .unset, .unset, .unset, .unset, .unset, .unset, .unset, .unset, .unset, .unset, .unset, .unset, .unset, .unset, .unset] [(.long (pl + (1 : Int64))), (.long (qb &&& (9223372036854775807 : Int64)))])) _
    refine XS.lrem X0.here hx rfl (hb hby at_26) rfl (own_nzp pl hpl.1 hpl.2) ?_
    rw [lrem_mod]
    show Steps p.tables e below (s₁.setTop (mkF m 27 #[.val (.long qa), .second, .val (.long qb), .second, .val (.long qc), .second, .val (.int d), .val (.int fl), .val (.long pl), .second, .unset, .unset, .unset, .unset, .unset, .unset, .unset, .unset, .unset, .unset, .unset, .unset, .unset, .unset, .unset] [(.long ((qb &&& (9223372036854775807 : Int64)) % (pl + (1 : Int64))))])) _
    refine XS.lstore X0.here hx rfl (hb hby at_27) rfl (l' := #[.val (.long qa), .second, .val (.long qb), .second, .val (.long qc), .second, .val (.int d), .val (.int fl), .val (.long pl), .second, .val (.long ((qb &&& (9223372036854775807 : Int64)) % (pl + (1 : Int64)))), .second, .unset, .unset, .unset, .unset, .unset, .unset, .unset, .unset, .unset, .unset, .unset, .unset, .unset]) rfl ?_
    show Steps p.tables e below (s₁.setTop (mkF m 29 #[.val (.long qa), .second, .val (.long qb), .second, .val (.long qc), .second, .val (.int d), .val (.int fl), .val (.long pl), .second, .val (.long ((qb &&& (9223372036854775807 : Int64)) % (pl + (1 : Int64)))), .second, .unset, .unset, .unset, .unset, .unset, .unset, .unset, .unset, .unset, .unset, .unset, .unset, .unset] [])) _
    exact kt
  obtain ⟨tt, h_tt⟩ : ∃ z, z = ((qb &&& (9223372036854775807 : Int64)) % (pl + (1 : Int64))) := ⟨_, rfl⟩
  rw [← h_tt] at K6
  have K7 : ∀ t, Steps p.tables e below (s₁.setTop (mkF m 33 #[.val (.long qa), .second, .val (.long qb), .second, .val (.long qc), .second, .val (.int d), .val (.int fl), .val (.long pl), .second, .val (.long tt), .second, .unset, .unset, .unset, .unset, .unset, .unset, .unset, .unset, .unset, .unset, .unset, .unset, .unset] [(.int (fl &&& (4 : Int32)))])) t → Steps p.tables e below G0 t := by
    intro t kt
    refine K6 t ?_
    refine XS.iload X0.here hx rfl (hb hby at_29) rfl ?_
    show Steps p.tables e below (s₁.setTop (mkF m 31 #[.val (.long qa), .second, .val (.long qb), .second, .val (.long qc), .second, .val (.int d), .val (.int fl), .val (.long pl), .second, .val (.long tt), .second, .unset, .unset, .unset, .unset, .unset, .unset, .unset, .unset, .unset, .unset, .unset, .unset, .unset] [(.int fl)])) _
    refine XS.iconst X0.here hx rfl (hb hby at_31) ?_
    show Steps p.tables e below (s₁.setTop (mkF m 32 #[.val (.long qa), .second, .val (.long qb), .second, .val (.long qc), .second, .val (.int d), .val (.int fl), .val (.long pl), .second, .val (.long tt), .second, .unset, .unset, .unset, .unset, .unset, .unset, .unset, .unset, .unset, .unset, .unset, .unset, .unset] [(.int (4 : Int32)), (.int fl)])) _
    refine XS.iand X0.here hx rfl (hb hby at_32) rfl ?_
    show Steps p.tables e below (s₁.setTop (mkF m 33 #[.val (.long qa), .second, .val (.long qb), .second, .val (.long qc), .second, .val (.int d), .val (.int fl), .val (.long pl), .second, .val (.long tt), .second, .unset, .unset, .unset, .unset, .unset, .unset, .unset, .unset, .unset, .unset, .unset, .unset, .unset] [(.int (fl &&& (4 : Int32)))])) _
    exact kt
  have K8 : ∀ t, Steps p.tables e below (s₁.setTop (mkF m 40 #[.val (.long qa), .second, .val (.long qb), .second, .val (.long qc), .second, .val (.int d), .val (.int fl), .val (.long pl), .second, .val (.long (own_pr fl pl tt)), .second, .unset, .unset, .unset, .unset, .unset, .unset, .unset, .unset, .unset, .unset, .unset, .unset, .unset] [])) t → Steps p.tables e below G0 t := by
    by_cases hc9 : (fl &&& (4 : Int32)) = (0 : Int32)
    ·
      have K10 : ∀ t, Steps p.tables e below (s₁.setTop (mkF m 40 #[.val (.long qa), .second, .val (.long qb), .second, .val (.long qc), .second, .val (.int d), .val (.int fl), .val (.long pl), .second, .val (.long tt), .second, .unset, .unset, .unset, .unset, .unset, .unset, .unset, .unset, .unset, .unset, .unset, .unset, .unset] [])) t → Steps p.tables e below G0 t := by
        intro t kt
        refine K7 t ?_
        refine XS.ifYes X0.here hx rfl (pc0 := 33) (pc' := 40) rfl (hb hby at_33) rfl ((if0 _ _).trans (teq hc9).1) (by decide) (by decide) ?_
        show Steps p.tables e below (s₁.setTop (mkF m 40 #[.val (.long qa), .second, .val (.long qb), .second, .val (.long qc), .second, .val (.int d), .val (.int fl), .val (.long pl), .second, .val (.long tt), .second, .unset, .unset, .unset, .unset, .unset, .unset, .unset, .unset, .unset, .unset, .unset, .unset, .unset] [])) _
        exact kt
      rw [own_pr, if_pos hc9]
      exact K10
    ·
      have K11 : ∀ t, Steps p.tables e below (s₁.setTop (mkF m 40 #[.val (.long qa), .second, .val (.long qb), .second, .val (.long qc), .second, .val (.int d), .val (.int fl), .val (.long pl), .second, .val (.long pl), .second, .unset, .unset, .unset, .unset, .unset, .unset, .unset, .unset, .unset, .unset, .unset, .unset, .unset] [])) t → Steps p.tables e below G0 t := by
        intro t kt
        refine K7 t ?_
        refine XS.ifNo X0.here hx rfl (hb hby at_33) rfl ((if0 _ _).trans (feq hc9).1) ?_
        show Steps p.tables e below (s₁.setTop (mkF m 36 #[.val (.long qa), .second, .val (.long qb), .second, .val (.long qc), .second, .val (.int d), .val (.int fl), .val (.long pl), .second, .val (.long tt), .second, .unset, .unset, .unset, .unset, .unset, .unset, .unset, .unset, .unset, .unset, .unset, .unset, .unset] [])) _
        refine XS.lload X0.here hx rfl (hb hby at_36) rfl ?_
        show Steps p.tables e below (s₁.setTop (mkF m 38 #[.val (.long qa), .second, .val (.long qb), .second, .val (.long qc), .second, .val (.int d), .val (.int fl), .val (.long pl), .second, .val (.long tt), .second, .unset, .unset, .unset, .unset, .unset, .unset, .unset, .unset, .unset, .unset, .unset, .unset, .unset] [(.long pl)])) _
        refine XS.lstore X0.here hx rfl (hb hby at_38) rfl (l' := #[.val (.long qa), .second, .val (.long qb), .second, .val (.long qc), .second, .val (.int d), .val (.int fl), .val (.long pl), .second, .val (.long pl), .second, .unset, .unset, .unset, .unset, .unset, .unset, .unset, .unset, .unset, .unset, .unset, .unset, .unset]) rfl ?_
        show Steps p.tables e below (s₁.setTop (mkF m 40 #[.val (.long qa), .second, .val (.long qb), .second, .val (.long qc), .second, .val (.int d), .val (.int fl), .val (.long pl), .second, .val (.long pl), .second, .unset, .unset, .unset, .unset, .unset, .unset, .unset, .unset, .unset, .unset, .unset, .unset, .unset] [])) _
        exact kt
      rw [own_pr, if_neg hc9]
      exact K11
  have hpr := own_prI fl qb pl tt hpl.1 hpl.2 h_tt
  obtain ⟨pr, h_pr⟩ : ∃ z, z = (own_pr fl pl tt) := ⟨_, rfl⟩
  rw [← h_pr] at K8
  rw [← h_pr] at hpr
  have K12 : ∀ t, Steps p.tables e below (s₁.setTop (mkF m 49 #[.val (.long qa), .second, .val (.long qb), .second, .val (.long qc), .second, .val (.int d), .val (.int fl), .val (.long pl), .second, .val (.long pr), .second, .val (.double (FP.i2d (d &&& (1023 : Int32)))), .second, .unset, .unset, .unset, .unset, .unset, .unset, .unset, .unset, .unset, .unset, .unset] [])) t → Steps p.tables e below G0 t := by
    intro t kt
    refine K8 t ?_
    refine XS.iload X0.here hx rfl (hb hby at_40) rfl ?_
    show Steps p.tables e below (s₁.setTop (mkF m 42 #[.val (.long qa), .second, .val (.long qb), .second, .val (.long qc), .second, .val (.int d), .val (.int fl), .val (.long pl), .second, .val (.long pr), .second, .unset, .unset, .unset, .unset, .unset, .unset, .unset, .unset, .unset, .unset, .unset, .unset, .unset] [(.int d)])) _
    refine XS.sipush X0.here hx rfl (hb hby at_42) ?_
    show Steps p.tables e below (s₁.setTop (mkF m 45 #[.val (.long qa), .second, .val (.long qb), .second, .val (.long qc), .second, .val (.int d), .val (.int fl), .val (.long pl), .second, .val (.long pr), .second, .unset, .unset, .unset, .unset, .unset, .unset, .unset, .unset, .unset, .unset, .unset, .unset, .unset] [(.int (1023 : Int32)), (.int d)])) _
    refine XS.iand X0.here hx rfl (hb hby at_45) rfl ?_
    show Steps p.tables e below (s₁.setTop (mkF m 46 #[.val (.long qa), .second, .val (.long qb), .second, .val (.long qc), .second, .val (.int d), .val (.int fl), .val (.long pl), .second, .val (.long pr), .second, .unset, .unset, .unset, .unset, .unset, .unset, .unset, .unset, .unset, .unset, .unset, .unset, .unset] [(.int (d &&& (1023 : Int32)))])) _
    refine XS.i2dS X0.here hx rfl (hb hby at_46) rfl rfl ?_
    show Steps p.tables e below (s₁.setTop (mkF m 47 #[.val (.long qa), .second, .val (.long qb), .second, .val (.long qc), .second, .val (.int d), .val (.int fl), .val (.long pl), .second, .val (.long pr), .second, .unset, .unset, .unset, .unset, .unset, .unset, .unset, .unset, .unset, .unset, .unset, .unset, .unset] [(.double (FP.i2d (d &&& (1023 : Int32))))])) _
    refine XS.dstore X0.here hx rfl (hb hby at_47) rfl (l' := #[.val (.long qa), .second, .val (.long qb), .second, .val (.long qc), .second, .val (.int d), .val (.int fl), .val (.long pl), .second, .val (.long pr), .second, .val (.double (FP.i2d (d &&& (1023 : Int32)))), .second, .unset, .unset, .unset, .unset, .unset, .unset, .unset, .unset, .unset, .unset, .unset]) rfl ?_
    show Steps p.tables e below (s₁.setTop (mkF m 49 #[.val (.long qa), .second, .val (.long qb), .second, .val (.long qc), .second, .val (.int d), .val (.int fl), .val (.long pl), .second, .val (.long pr), .second, .val (.double (FP.i2d (d &&& (1023 : Int32)))), .second, .unset, .unset, .unset, .unset, .unset, .unset, .unset, .unset, .unset, .unset, .unset] [])) _
    exact kt
  obtain ⟨T13, h13, X13, e13, E13, A13, D13, -, st13⟩ := newO X0 hx hZ hown (hw _ (List.mem_of_getElem? (i := 2) rfl)) (hw _ (List.mem_of_getElem? (i := 3) rfl)) (hw _ (List.mem_of_getElem? (i := 4) rfl)) e0 (g := (mkF m 49 #[.val (.long qa), .second, .val (.long qb), .second, .val (.long qc), .second, .val (.int d), .val (.int fl), .val (.long pl), .second, .val (.long pr), .second, .val (.double (FP.i2d (d &&& (1023 : Int32)))), .second, .unset, .unset, .unset, .unset, .unset, .unset, .unset, .unset, .unset, .unset, .unset] [])) rfl (hb hby at_49) (by decide) (by decide)
  obtain ⟨b13, g13⟩ : ∃ z, z = h0.size := ⟨_, rfl⟩
  rw [← g13] at A13 D13 st13
  have gn13 : n0 ≤ b13 := Nat.le_trans Z0 (Nat.le_of_eq g13.symm)
  have Z13 : n0 ≤ h13.size := Nat.le_trans Z0 E13.1
  have K13 : ∀ t, Steps p.tables e below (T13.setTop (mkF m 52 #[.val (.long qa), .second, .val (.long qb), .second, .val (.long qc), .second, .val (.int d), .val (.int fl), .val (.long pl), .second, .val (.long pr), .second, .val (.double (FP.i2d (d &&& (1023 : Int32)))), .second, .unset, .unset, .unset, .unset, .unset, .unset, .unset, .unset, .unset, .unset, .unset] [(.ref b13)])) t → Steps p.tables e below G0 t := fun t kt => K12 t (st13 _ kt)
  have F_lessons_b13 := (D13 (Or.inr (hw _ (List.mem_of_getElem? (i := 17) rfl))) (ty := .long) (by decide) : Fld Z h13 b13 "com/example/horarium/horarium/engine/CampusScore" "lessons" "J" (.long (0 : Int64)))
  have F_roomClashes_b13 := (D13 (Or.inr (hw _ (List.mem_of_getElem? (i := 19) rfl))) (ty := .long) (by decide) : Fld Z h13 b13 "com/example/horarium/horarium/engine/CampusScore" "roomClashes" "J" (.long (0 : Int64)))
  have F_teacherClashes_b13 := (D13 (Or.inr (hw _ (List.mem_of_getElem? (i := 21) rfl))) (ty := .long) (by decide) : Fld Z h13 b13 "com/example/horarium/horarium/engine/CampusScore" "teacherClashes" "J" (.long (0 : Int64)))
  have F_curriculumClashes_b13 := (D13 (Or.inr (hw _ (List.mem_of_getElem? (i := 23) rfl))) (ty := .long) (by decide) : Fld Z h13 b13 "com/example/horarium/horarium/engine/CampusScore" "curriculumClashes" "J" (.long (0 : Int64)))
  have F_unavailable_b13 := (D13 (Or.inr (hw _ (List.mem_of_getElem? (i := 25) rfl))) (ty := .long) (by decide) : Fld Z h13 b13 "com/example/horarium/horarium/engine/CampusScore" "unavailable" "J" (.long (0 : Int64)))
  have F_unqualified_b13 := (D13 (Or.inr (hw _ (List.mem_of_getElem? (i := 27) rfl))) (ty := .long) (by decide) : Fld Z h13 b13 "com/example/horarium/horarium/engine/CampusScore" "unqualified" "J" (.long (0 : Int64)))
  have F_splitTeacher_b13 := (D13 (Or.inr (hw _ (List.mem_of_getElem? (i := 29) rfl))) (ty := .long) (by decide) : Fld Z h13 b13 "com/example/horarium/horarium/engine/CampusScore" "splitTeacher" "J" (.long (0 : Int64)))
  have F_wrongRoom_b13 := (D13 (Or.inr (hw _ (List.mem_of_getElem? (i := 31) rfl))) (ty := .long) (by decide) : Fld Z h13 b13 "com/example/horarium/horarium/engine/CampusScore" "wrongRoom" "J" (.long (0 : Int64)))
  have F_wrongShift_b13 := (D13 (Or.inr (hw _ (List.mem_of_getElem? (i := 33) rfl))) (ty := .long) (by decide) : Fld Z h13 b13 "com/example/horarium/horarium/engine/CampusScore" "wrongShift" "J" (.long (0 : Int64)))
  have F_placed_b13 := (D13 (Or.inr (hw _ (List.mem_of_getElem? (i := 35) rfl))) (ty := .long) (by decide) : Fld Z h13 b13 "com/example/horarium/horarium/engine/CampusScore" "placed" "J" (.long (0 : Int64)))
  have F_preferred_b13 := (D13 (Or.inr (hw _ (List.mem_of_getElem? (i := 37) rfl))) (ty := .long) (by decide) : Fld Z h13 b13 "com/example/horarium/horarium/engine/CampusScore" "preferred" "J" (.long (0 : Int64)))
  have F_loadStddev_b13 := (D13 (Or.inr (hw _ (List.mem_of_getElem? (i := 39) rfl))) (ty := .double) (by decide) : Fld Z h13 b13 "com/example/horarium/horarium/engine/CampusScore" "loadStddev" "D" (.double 0))
  have K15 : ∀ t, Steps p.tables e below (T13.setTop (mkF m 77 #[.val (.long qa), .second, .val (.long qb), .second, .val (.long qc), .second, .val (.int d), .val (.int fl), .val (.long pl), .second, .val (.long pr), .second, .val (.double (FP.i2d (d &&& (1023 : Int32)))), .second, .unset, .unset, .unset, .unset, .unset, .unset, .unset, .unset, .unset, .unset, .unset] [(.double (FP.i2d (d &&& (1023 : Int32)))), (.long pr), (.long pl), (.long qc), (.long qc), (.long qc), (.long qc), (.long qc), (.long qc), (.long qc), (.long qc), (.long qc), (.ref b13), (.ref b13)])) t → Steps p.tables e below G0 t := by
    intro t kt
    refine K13 t ?_
    refine XS.dup X13.here hx rfl (hb hby at_52) rfl rfl ?_
    show Steps p.tables e below (T13.setTop (mkF m 53 #[.val (.long qa), .second, .val (.long qb), .second, .val (.long qc), .second, .val (.int d), .val (.int fl), .val (.long pl), .second, .val (.long pr), .second, .val (.double (FP.i2d (d &&& (1023 : Int32)))), .second, .unset, .unset, .unset, .unset, .unset, .unset, .unset, .unset, .unset, .unset, .unset] [(.ref b13), (.ref b13)])) _
    refine XS.lload X13.here hx rfl (hb hby at_53) rfl ?_
    show Steps p.tables e below (T13.setTop (mkF m 55 #[.val (.long qa), .second, .val (.long qb), .second, .val (.long qc), .second, .val (.int d), .val (.int fl), .val (.long pl), .second, .val (.long pr), .second, .val (.double (FP.i2d (d &&& (1023 : Int32)))), .second, .unset, .unset, .unset, .unset, .unset, .unset, .unset, .unset, .unset, .unset, .unset] [(.long qc), (.ref b13), (.ref b13)])) _
    refine XS.lload X13.here hx rfl (hb hby at_55) rfl ?_
    show Steps p.tables e below (T13.setTop (mkF m 57 #[.val (.long qa), .second, .val (.long qb), .second, .val (.long qc), .second, .val (.int d), .val (.int fl), .val (.long pl), .second, .val (.long pr), .second, .val (.double (FP.i2d (d &&& (1023 : Int32)))), .second, .unset, .unset, .unset, .unset, .unset, .unset, .unset, .unset, .unset, .unset, .unset] [(.long qc), (.long qc), (.ref b13), (.ref b13)])) _
    refine XS.lload X13.here hx rfl (hb hby at_57) rfl ?_
    show Steps p.tables e below (T13.setTop (mkF m 59 #[.val (.long qa), .second, .val (.long qb), .second, .val (.long qc), .second, .val (.int d), .val (.int fl), .val (.long pl), .second, .val (.long pr), .second, .val (.double (FP.i2d (d &&& (1023 : Int32)))), .second, .unset, .unset, .unset, .unset, .unset, .unset, .unset, .unset, .unset, .unset, .unset] [(.long qc), (.long qc), (.long qc), (.ref b13), (.ref b13)])) _
    refine XS.lload X13.here hx rfl (hb hby at_59) rfl ?_
    show Steps p.tables e below (T13.setTop (mkF m 61 #[.val (.long qa), .second, .val (.long qb), .second, .val (.long qc), .second, .val (.int d), .val (.int fl), .val (.long pl), .second, .val (.long pr), .second, .val (.double (FP.i2d (d &&& (1023 : Int32)))), .second, .unset, .unset, .unset, .unset, .unset, .unset, .unset, .unset, .unset, .unset, .unset] [(.long qc), (.long qc), (.long qc), (.long qc), (.ref b13), (.ref b13)])) _
    refine XS.lload X13.here hx rfl (hb hby at_61) rfl ?_
    show Steps p.tables e below (T13.setTop (mkF m 63 #[.val (.long qa), .second, .val (.long qb), .second, .val (.long qc), .second, .val (.int d), .val (.int fl), .val (.long pl), .second, .val (.long pr), .second, .val (.double (FP.i2d (d &&& (1023 : Int32)))), .second, .unset, .unset, .unset, .unset, .unset, .unset, .unset, .unset, .unset, .unset, .unset] [(.long qc), (.long qc), (.long qc), (.long qc), (.long qc), (.ref b13), (.ref b13)])) _
    refine XS.lload X13.here hx rfl (hb hby at_63) rfl ?_
    show Steps p.tables e below (T13.setTop (mkF m 65 #[.val (.long qa), .second, .val (.long qb), .second, .val (.long qc), .second, .val (.int d), .val (.int fl), .val (.long pl), .second, .val (.long pr), .second, .val (.double (FP.i2d (d &&& (1023 : Int32)))), .second, .unset, .unset, .unset, .unset, .unset, .unset, .unset, .unset, .unset, .unset, .unset] [(.long qc), (.long qc), (.long qc), (.long qc), (.long qc), (.long qc), (.ref b13), (.ref b13)])) _
    refine XS.lload X13.here hx rfl (hb hby at_65) rfl ?_
    show Steps p.tables e below (T13.setTop (mkF m 67 #[.val (.long qa), .second, .val (.long qb), .second, .val (.long qc), .second, .val (.int d), .val (.int fl), .val (.long pl), .second, .val (.long pr), .second, .val (.double (FP.i2d (d &&& (1023 : Int32)))), .second, .unset, .unset, .unset, .unset, .unset, .unset, .unset, .unset, .unset, .unset, .unset] [(.long qc), (.long qc), (.long qc), (.long qc), (.long qc), (.long qc), (.long qc), (.ref b13), (.ref b13)])) _
    refine XS.lload X13.here hx rfl (hb hby at_67) rfl ?_
    show Steps p.tables e below (T13.setTop (mkF m 69 #[.val (.long qa), .second, .val (.long qb), .second, .val (.long qc), .second, .val (.int d), .val (.int fl), .val (.long pl), .second, .val (.long pr), .second, .val (.double (FP.i2d (d &&& (1023 : Int32)))), .second, .unset, .unset, .unset, .unset, .unset, .unset, .unset, .unset, .unset, .unset, .unset] [(.long qc), (.long qc), (.long qc), (.long qc), (.long qc), (.long qc), (.long qc), (.long qc), (.ref b13), (.ref b13)])) _
    refine XS.lload X13.here hx rfl (hb hby at_69) rfl ?_
    show Steps p.tables e below (T13.setTop (mkF m 71 #[.val (.long qa), .second, .val (.long qb), .second, .val (.long qc), .second, .val (.int d), .val (.int fl), .val (.long pl), .second, .val (.long pr), .second, .val (.double (FP.i2d (d &&& (1023 : Int32)))), .second, .unset, .unset, .unset, .unset, .unset, .unset, .unset, .unset, .unset, .unset, .unset] [(.long qc), (.long qc), (.long qc), (.long qc), (.long qc), (.long qc), (.long qc), (.long qc), (.long qc), (.ref b13), (.ref b13)])) _
    refine XS.lload X13.here hx rfl (hb hby at_71) rfl ?_
    show Steps p.tables e below (T13.setTop (mkF m 73 #[.val (.long qa), .second, .val (.long qb), .second, .val (.long qc), .second, .val (.int d), .val (.int fl), .val (.long pl), .second, .val (.long pr), .second, .val (.double (FP.i2d (d &&& (1023 : Int32)))), .second, .unset, .unset, .unset, .unset, .unset, .unset, .unset, .unset, .unset, .unset, .unset] [(.long pl), (.long qc), (.long qc), (.long qc), (.long qc), (.long qc), (.long qc), (.long qc), (.long qc), (.long qc), (.ref b13), (.ref b13)])) _
    refine XS.lload X13.here hx rfl (hb hby at_73) rfl ?_
    show Steps p.tables e below (T13.setTop (mkF m 75 #[.val (.long qa), .second, .val (.long qb), .second, .val (.long qc), .second, .val (.int d), .val (.int fl), .val (.long pl), .second, .val (.long pr), .second, .val (.double (FP.i2d (d &&& (1023 : Int32)))), .second, .unset, .unset, .unset, .unset, .unset, .unset, .unset, .unset, .unset, .unset, .unset] [(.long pr), (.long pl), (.long qc), (.long qc), (.long qc), (.long qc), (.long qc), (.long qc), (.long qc), (.long qc), (.long qc), (.ref b13), (.ref b13)])) _
    refine XS.dload X13.here hx rfl (hb hby at_75) rfl ?_
    show Steps p.tables e below (T13.setTop (mkF m 77 #[.val (.long qa), .second, .val (.long qb), .second, .val (.long qc), .second, .val (.int d), .val (.int fl), .val (.long pl), .second, .val (.long pr), .second, .val (.double (FP.i2d (d &&& (1023 : Int32)))), .second, .unset, .unset, .unset, .unset, .unset, .unset, .unset, .unset, .unset, .unset, .unset] [(.double (FP.i2d (d &&& (1023 : Int32)))), (.long pr), (.long pl), (.long qc), (.long qc), (.long qc), (.long qc), (.long qc), (.long qc), (.long qc), (.long qc), (.long qc), (.ref b13), (.ref b13)])) _
    exact kt
  obtain ⟨_, _, ⟨T16, L16, k16, n16⟩, -, X16, ⟨Lc16, hQ16, l16, y16, z16⟩, st16⟩ := X13.specialBack hx (y := (⟨"com/example/horarium/horarium/engine/CampusScore", "<init>", "(JJJJJJJJJJJD)V"⟩ : MethodName)) rfl hown (mvT hZ (hw _ (List.mem_of_getElem? (i := 5) rfl))) (mvT hZ (hw _ (List.mem_of_getElem? (i := 6) rfl))) (mvT hZ (hw _ (List.mem_of_getElem? (i := 7) rfl))) (by decide) (backOf (W := 1) (rm1 l Z aa hw [] (b13) (qc) (qc) (qc) (qc) (qc) (qc) (qc) (qc) (qc) (pl) (pr) ((FP.i2d (d &&& (1023 : Int32)))) _ _ _ _ _ _ _ _ _ _ _ _ h13 n0 Z13 gn13 A13 F_lessons_b13 F_roomClashes_b13 F_teacherClashes_b13 F_curriculumClashes_b13 F_unavailable_b13 F_unqualified_b13 F_splitTeacher_b13 F_wrongRoom_b13 F_wrongShift_b13 F_placed_b13 F_preferred_b13 F_loadStddev_b13) hZ (hw _ (List.mem_of_getElem? (i := 7) rfl)) (hw _ (List.mem_of_getElem? (i := 4) rfl)) (by decide) (by decide)) (g := (mkF m 77 #[.val (.long qa), .second, .val (.long qb), .second, .val (.long qc), .second, .val (.int d), .val (.int fl), .val (.long pl), .second, .val (.long pr), .second, .val (.double (FP.i2d (d &&& (1023 : Int32)))), .second, .unset, .unset, .unset, .unset, .unset, .unset, .unset, .unset, .unset, .unset, .unset] [(.double (FP.i2d (d &&& (1023 : Int32)))), (.long pr), (.long pl), (.long qc), (.long qc), (.long qc), (.long qc), (.long qc), (.long qc), (.long qc), (.long qc), (.long qc), (.ref b13), (.ref b13)])) rfl (by rw [hml]; rfl) (Steps.refl _) (a := b13) (argsL := [(.long qc), (.long qc), (.long qc), (.long qc), (.long qc), (.long qc), (.long qc), (.long qc), (.long qc), (.long pl), (.long pr), (.double (FP.i2d (d &&& (1023 : Int32))))]) (rest := [(.ref b13)]) (lenOf pd_PJJJJJJJJJJJDQV rfl) rfl (by show 2 * 0 + _ ≤ _; exact Nat.le_of_eq rfl) (hb hby at_77) (fun _ _ => ⟨rfl, e13, (by decide : 1 + 0 ≤ _), (by decide : 12 + 0 ≤ _)⟩)
  dsimp only [Pt.U, Pt.locs, Pt.cells, Pt.slots] at X16 l16 y16 z16 st16 hQ16
  subst l16 y16 z16
  obtain ⟨rfl, N16q, KK14, EE14, Fc0_14, Fc1_14, Fc2_14, Fc3_14, Fc4_14, Fc5_14, Fc6_14, Fc7_14, Fc8_14, Fc9_14, Fc10_14, Fc11_14⟩ := hQ16
  have N16 := Fr.app N0 N16q
  have K16 : ∀ t, Steps p.tables e below (T16.setTop (mkF m 80 #[.val (.long qa), .second, .val (.long qb), .second, .val (.long qc), .second, .val (.int d), .val (.int fl), .val (.long pl), .second, .val (.long pr), .second, .val (.double (FP.i2d (d &&& (1023 : Int32)))), .second, .unset, .unset, .unset, .unset, .unset, .unset, .unset, .unset, .unset, .unset, .unset] [(.ref b13)])) t → Steps p.tables e below G0 t := fun t kt => K15 t (st16.trans kt)
  have ZZ14 : n0 ≤ T16.heap.size := Nat.le_trans Z13 KK14.1
  have K17 : ∀ t, Steps p.tables e below (T16.setTop (mkF m 84 #[.val (.long qa), .second, .val (.long qb), .second, .val (.long qc), .second, .val (.int d), .val (.int fl), .val (.long pl), .second, .val (.long pr), .second, .val (.double (FP.i2d (d &&& (1023 : Int32)))), .second, .val (.ref b13), .unset, .unset, .unset, .unset, .unset, .unset, .unset, .unset, .unset, .unset] [(.ref b13)])) t → Steps p.tables e below G0 t := by
    intro t kt
    refine K16 t ?_
    refine XS.astore X16.here hx rfl (hb hby at_80) rfl rfl (l' := #[.val (.long qa), .second, .val (.long qb), .second, .val (.long qc), .second, .val (.int d), .val (.int fl), .val (.long pl), .second, .val (.long pr), .second, .val (.double (FP.i2d (d &&& (1023 : Int32)))), .second, .val (.ref b13), .unset, .unset, .unset, .unset, .unset, .unset, .unset, .unset, .unset, .unset]) rfl ?_
    show Steps p.tables e below (T16.setTop (mkF m 82 #[.val (.long qa), .second, .val (.long qb), .second, .val (.long qc), .second, .val (.int d), .val (.int fl), .val (.long pl), .second, .val (.long pr), .second, .val (.double (FP.i2d (d &&& (1023 : Int32)))), .second, .val (.ref b13), .unset, .unset, .unset, .unset, .unset, .unset, .unset, .unset, .unset, .unset] [])) _
    refine XS.aload X16.here hx rfl (hb hby at_82) rfl rfl ?_
    show Steps p.tables e below (T16.setTop (mkF m 84 #[.val (.long qa), .second, .val (.long qb), .second, .val (.long qc), .second, .val (.int d), .val (.int fl), .val (.long pl), .second, .val (.long pr), .second, .val (.double (FP.i2d (d &&& (1023 : Int32)))), .second, .val (.ref b13), .unset, .unset, .unset, .unset, .unset, .unset, .unset, .unset, .unset, .unset] [(.ref b13)])) _
    exact kt
  by_cases hz : pl = 0
  ·
    obtain ⟨cq18, kq18, q18a, q18b, q18c⟩ := isOf hZ (rfl : T16.heap = _) EE14
    obtain ⟨_, _, ⟨T19, L19, k19, n19⟩, -, X19, ⟨Lc19, hQ19, l19, y19, z19⟩, st19⟩ := X16.virtualBack hx (y := (⟨"com/example/horarium/horarium/engine/CampusScore", "preferredShare", "()D"⟩ : MethodName)) (z := (⟨"com/example/horarium/horarium/engine/CampusScore", "preferredShare", "()D"⟩ : MethodName)) hown (mvT hZ (hw _ (List.mem_of_getElem? (i := 40) rfl))) (mvT hZ (hw _ (List.mem_of_getElem? (i := 41) rfl))) (notFace_of_selects (args := #[]) (mvT hZ (hw _ (List.mem_of_getElem? (i := 43) rfl)))) (mvT hZ (hw _ (List.mem_of_getElem? (i := 43) rfl))) (mvT hZ (hw _ (List.mem_of_getElem? (i := 42) rfl))) (by decide) (backOf (W := 0) (rm4z l Z aa hw [] (b13) pl T16.heap n0 ZZ14 Fc9_14 hz) hZ (hw _ (List.mem_of_getElem? (i := 44) rfl)) (hw _ (List.mem_of_getElem? (i := 4) rfl)) (by decide) (by decide)) q18a q18c (g := (mkF m 84 #[.val (.long qa), .second, .val (.long qb), .second, .val (.long qc), .second, .val (.int d), .val (.int fl), .val (.long pl), .second, .val (.long pr), .second, .val (.double (FP.i2d (d &&& (1023 : Int32)))), .second, .val (.ref b13), .unset, .unset, .unset, .unset, .unset, .unset, .unset, .unset, .unset, .unset] [(.ref b13)])) rfl (by rw [hml]; rfl) (Steps.refl _) (argsL := []) (rest := []) (lenOf pd_PQD rfl) rfl (by show 2 * 0 + _ ≤ _; exact Nat.le_of_eq rfl) (hb hby at_84) (fun _ _ => ⟨rfl, (rfl : T16.heap = _), (by decide : 1 + 0 ≤ _), (by decide : 12 + 0 ≤ _)⟩)
    dsimp only [Pt.U, Pt.locs, Pt.cells, Pt.slots] at X19 l19 y19 z19 st19 hQ19
    subst l19 y19 z19
    obtain ⟨rfl, N19q, e19⟩ := hQ19
    have N19 := Fr.app N16 N19q
    have K19 : ∀ t, Steps p.tables e below (T19.setTop (mkF m 87 #[.val (.long qa), .second, .val (.long qb), .second, .val (.long qc), .second, .val (.int d), .val (.int fl), .val (.long pl), .second, .val (.long pr), .second, .val (.double (FP.i2d (d &&& (1023 : Int32)))), .second, .val (.ref b13), .unset, .unset, .unset, .unset, .unset, .unset, .unset, .unset, .unset, .unset] [(.double FP.dconst0)])) t → Steps p.tables e below G0 t := fun t kt => K17 t (st19.trans kt)
    have K20 : ∀ t, Steps p.tables e below (T19.setTop (mkF m 108 #[.val (.long qa), .second, .val (.long qb), .second, .val (.long qc), .second, .val (.int d), .val (.int fl), .val (.long pl), .second, .val (.long pr), .second, .val (.double (FP.i2d (d &&& (1023 : Int32)))), .second, .val (.ref b13), .val (.double FP.dconst0), .second, .unset, .unset, .unset, .unset, .unset, .unset, .unset, .unset] [(.int (1 : Int32))])) t → Steps p.tables e below G0 t := by
      intro t kt
      refine K19 t ?_
      refine XS.dstore X19.here hx rfl (hb hby at_87) rfl (l' := #[.val (.long qa), .second, .val (.long qb), .second, .val (.long qc), .second, .val (.int d), .val (.int fl), .val (.long pl), .second, .val (.long pr), .second, .val (.double (FP.i2d (d &&& (1023 : Int32)))), .second, .val (.ref b13), .val (.double FP.dconst0), .second, .unset, .unset, .unset, .unset, .unset, .unset, .unset, .unset]) rfl ?_
      show Steps p.tables e below (T19.setTop (mkF m 89 #[.val (.long qa), .second, .val (.long qb), .second, .val (.long qc), .second, .val (.int d), .val (.int fl), .val (.long pl), .second, .val (.long pr), .second, .val (.double (FP.i2d (d &&& (1023 : Int32)))), .second, .val (.ref b13), .val (.double FP.dconst0), .second, .unset, .unset, .unset, .unset, .unset, .unset, .unset, .unset] [])) _
      refine XS.lload X19.here hx rfl (hb hby at_89) rfl ?_
      show Steps p.tables e below (T19.setTop (mkF m 91 #[.val (.long qa), .second, .val (.long qb), .second, .val (.long qc), .second, .val (.int d), .val (.int fl), .val (.long pl), .second, .val (.long pr), .second, .val (.double (FP.i2d (d &&& (1023 : Int32)))), .second, .val (.ref b13), .val (.double FP.dconst0), .second, .unset, .unset, .unset, .unset, .unset, .unset, .unset, .unset] [(.long pl)])) _
      refine XS.lconst X19.here hx rfl (hb hby at_91) ?_
      show Steps p.tables e below (T19.setTop (mkF m 92 #[.val (.long qa), .second, .val (.long qb), .second, .val (.long qc), .second, .val (.int d), .val (.int fl), .val (.long pl), .second, .val (.long pr), .second, .val (.double (FP.i2d (d &&& (1023 : Int32)))), .second, .val (.ref b13), .val (.double FP.dconst0), .second, .unset, .unset, .unset, .unset, .unset, .unset, .unset, .unset] [(.long (0 : Int64)), (.long pl)])) _
      refine XS.lcmp X19.here hx rfl (hb hby at_92) rfl ?_
      show Steps p.tables e below (T19.setTop (mkF m 93 #[.val (.long qa), .second, .val (.long qb), .second, .val (.long qc), .second, .val (.int d), .val (.int fl), .val (.long pl), .second, .val (.long pr), .second, .val (.double (FP.i2d (d &&& (1023 : Int32)))), .second, .val (.ref b13), .val (.double FP.dconst0), .second, .unset, .unset, .unset, .unset, .unset, .unset, .unset, .unset] [(.int (lcmpW pl (0 : Int64)))])) _
      refine XS.ifNo X19.here hx rfl (hb hby at_93) rfl ((if0 _ _).trans (teq ((lw_eq _ _).mpr hz)).2) ?_
      show Steps p.tables e below (T19.setTop (mkF m 96 #[.val (.long qa), .second, .val (.long qb), .second, .val (.long qc), .second, .val (.int d), .val (.int fl), .val (.long pl), .second, .val (.long pr), .second, .val (.double (FP.i2d (d &&& (1023 : Int32)))), .second, .val (.ref b13), .val (.double FP.dconst0), .second, .unset, .unset, .unset, .unset, .unset, .unset, .unset, .unset] [])) _
      refine XS.dload X19.here hx rfl (hb hby at_96) rfl ?_
      show Steps p.tables e below (T19.setTop (mkF m 98 #[.val (.long qa), .second, .val (.long qb), .second, .val (.long qc), .second, .val (.int d), .val (.int fl), .val (.long pl), .second, .val (.long pr), .second, .val (.double (FP.i2d (d &&& (1023 : Int32)))), .second, .val (.ref b13), .val (.double FP.dconst0), .second, .unset, .unset, .unset, .unset, .unset, .unset, .unset, .unset] [(.double FP.dconst0)])) _
      refine XS.dconst0 X19.here hx rfl (hb hby at_98) rfl ?_
      show Steps p.tables e below (T19.setTop (mkF m 99 #[.val (.long qa), .second, .val (.long qb), .second, .val (.long qc), .second, .val (.int d), .val (.int fl), .val (.long pl), .second, .val (.long pr), .second, .val (.double (FP.i2d (d &&& (1023 : Int32)))), .second, .val (.ref b13), .val (.double FP.dconst0), .second, .unset, .unset, .unset, .unset, .unset, .unset, .unset, .unset] [(.double FP.dconst0), (.double FP.dconst0)])) _
      refine XS.dcmpS X19.here hx rfl (hb hby at_99) rfl rfl ?_
      show Steps p.tables e below (T19.setTop (mkF m 100 #[.val (.long qa), .second, .val (.long qb), .second, .val (.long qc), .second, .val (.int d), .val (.int fl), .val (.long pl), .second, .val (.long pr), .second, .val (.double (FP.i2d (d &&& (1023 : Int32)))), .second, .val (.ref b13), .val (.double FP.dconst0), .second, .unset, .unset, .unset, .unset, .unset, .unset, .unset, .unset] [(.int (cmpValue (FP.dcmp FP.dconst0 FP.dconst0) .l))])) _
      refine XS.ifNo X19.here hx rfl (hb hby at_100) rfl ((if0 _ _).trans (teq (by decide)).2) ?_
      show Steps p.tables e below (T19.setTop (mkF m 103 #[.val (.long qa), .second, .val (.long qb), .second, .val (.long qc), .second, .val (.int d), .val (.int fl), .val (.long pl), .second, .val (.long pr), .second, .val (.double (FP.i2d (d &&& (1023 : Int32)))), .second, .val (.ref b13), .val (.double FP.dconst0), .second, .unset, .unset, .unset, .unset, .unset, .unset, .unset, .unset] [])) _
      refine XS.iconst X19.here hx rfl (hb hby at_103) ?_
      show Steps p.tables e below (T19.setTop (mkF m 104 #[.val (.long qa), .second, .val (.long qb), .second, .val (.long qc), .second, .val (.int d), .val (.int fl), .val (.long pl), .second, .val (.long pr), .second, .val (.double (FP.i2d (d &&& (1023 : Int32)))), .second, .val (.ref b13), .val (.double FP.dconst0), .second, .unset, .unset, .unset, .unset, .unset, .unset, .unset, .unset] [(.int (1 : Int32))])) _
      refine XS.goto X19.here hx rfl (pc0 := 104) (pc' := 108) rfl (hb hby at_104) (by decide) (by decide) ?_
      show Steps p.tables e below (T19.setTop (mkF m 108 #[.val (.long qa), .second, .val (.long qb), .second, .val (.long qc), .second, .val (.int d), .val (.int fl), .val (.long pl), .second, .val (.long pr), .second, .val (.double (FP.i2d (d &&& (1023 : Int32)))), .second, .val (.ref b13), .val (.double FP.dconst0), .second, .unset, .unset, .unset, .unset, .unset, .unset, .unset, .unset] [(.int (1 : Int32))])) _
      exact kt
    obtain ⟨fs, hr, hrun, hended, hW, hsame⟩ := X19.leave (v := some (.int (1 : Int32))) (fun h => by rw [Bd.returns] at h; cases h)
    refine ⟨_, _, ?_, hrun, hended, _, _, rfl, ?_, ⟨_, rfl⟩, hW, hsame.mono (by decide) (by decide)⟩
    · rw [← hG0]
      refine K20 _ ?_
      exact retN X19 hx (t := .boolean) Bd.returns (by simp) (hb hby at_108) hr
    · show Q0 Z qa qb qc d fl h0 n0 _ T19.heap _
      rw [e19]
      exact ⟨rfl, N19⟩
  ·
    have hsh := own_share pr pl hpr.1 hpr.2 (own_pos1 pl hpl.1 hz) hpl.2
    obtain ⟨cq21, kq21, q21a, q21b, q21c⟩ := isOf hZ (rfl : T16.heap = _) EE14
    obtain ⟨_, _, ⟨T22, L22, k22, n22⟩, -, X22, ⟨Lc22, hQ22, l22, y22, z22⟩, st22⟩ := X16.virtualBack hx (y := (⟨"com/example/horarium/horarium/engine/CampusScore", "preferredShare", "()D"⟩ : MethodName)) (z := (⟨"com/example/horarium/horarium/engine/CampusScore", "preferredShare", "()D"⟩ : MethodName)) hown (mvT hZ (hw _ (List.mem_of_getElem? (i := 40) rfl))) (mvT hZ (hw _ (List.mem_of_getElem? (i := 41) rfl))) (notFace_of_selects (args := #[]) (mvT hZ (hw _ (List.mem_of_getElem? (i := 43) rfl)))) (mvT hZ (hw _ (List.mem_of_getElem? (i := 43) rfl))) (mvT hZ (hw _ (List.mem_of_getElem? (i := 42) rfl))) (by decide) (backOf (W := 0) (rm4 l Z aa hw [] (b13) pl pr T16.heap n0 ZZ14 Fc9_14 Fc10_14 hz hsh.1 hsh.2.1) hZ (hw _ (List.mem_of_getElem? (i := 44) rfl)) (hw _ (List.mem_of_getElem? (i := 4) rfl)) (by decide) (by decide)) q21a q21c (g := (mkF m 84 #[.val (.long qa), .second, .val (.long qb), .second, .val (.long qc), .second, .val (.int d), .val (.int fl), .val (.long pl), .second, .val (.long pr), .second, .val (.double (FP.i2d (d &&& (1023 : Int32)))), .second, .val (.ref b13), .unset, .unset, .unset, .unset, .unset, .unset, .unset, .unset, .unset, .unset] [(.ref b13)])) rfl (by rw [hml]; rfl) (Steps.refl _) (argsL := []) (rest := []) (lenOf pd_PQD rfl) rfl (by show 2 * 0 + _ ≤ _; exact Nat.le_of_eq rfl) (hb hby at_84) (fun _ _ => ⟨rfl, (rfl : T16.heap = _), (by decide : 1 + 0 ≤ _), (by decide : 12 + 0 ≤ _)⟩)
    dsimp only [Pt.U, Pt.locs, Pt.cells, Pt.slots] at X22 l22 y22 z22 st22 hQ22
    subst l22 y22 z22
    obtain ⟨rfl, N22q, e22⟩ := hQ22
    have N22 := Fr.app N16 N22q
    have K22 : ∀ t, Steps p.tables e below (T22.setTop (mkF m 87 #[.val (.long qa), .second, .val (.long qb), .second, .val (.long qc), .second, .val (.int d), .val (.int fl), .val (.long pl), .second, .val (.long pr), .second, .val (.double (FP.i2d (d &&& (1023 : Int32)))), .second, .val (.ref b13), .unset, .unset, .unset, .unset, .unset, .unset, .unset, .unset, .unset, .unset] [(.double (FP.ddiv (FP.dmul (4636737291354636288 : UInt64) (FP.l2d pr)) (FP.l2d pl)))])) t → Steps p.tables e below G0 t := fun t kt => K17 t (st22.trans kt)
    have K23 : ∀ t, Steps p.tables e below (T22.setTop (mkF m 146 #[.val (.long qa), .second, .val (.long qb), .second, .val (.long qc), .second, .val (.int d), .val (.int fl), .val (.long pl), .second, .val (.long pr), .second, .val (.double (FP.i2d (d &&& (1023 : Int32)))), .second, .val (.ref b13), .val (.double (FP.ddiv (FP.dmul (4636737291354636288 : UInt64) (FP.l2d pr)) (FP.l2d pl))), .second, .val (.double (FP.dmul (FP.ddiv (FP.dmul (4636737291354636288 : UInt64) (FP.l2d pr)) (FP.l2d pl)) (4661225614328463360 : UInt64))), .second, .val (.long (((100 : Int64) * pr) <<< ((12 : Int32) &&& 0x3f).toInt64)), .second, .val (.long ((((100 : Int64) * pr) <<< ((12 : Int32) &&& 0x3f).toInt64) / pl)), .second, .val (.long ((((100 : Int64) * pr) <<< ((12 : Int32) &&& 0x3f).toInt64) % pl)), .second] [(.int (lcmpW ((((100 : Int64) * pr) <<< ((12 : Int32) &&& 0x3f).toInt64) % pl) (0 : Int64)))])) t → Steps p.tables e below G0 t := by
      intro t kt
      refine K22 t ?_
      refine XS.dstore X22.here hx rfl (hb hby at_87) rfl (l' := #[.val (.long qa), .second, .val (.long qb), .second, .val (.long qc), .second, .val (.int d), .val (.int fl), .val (.long pl), .second, .val (.long pr), .second, .val (.double (FP.i2d (d &&& (1023 : Int32)))), .second, .val (.ref b13), .val (.double (FP.ddiv (FP.dmul (4636737291354636288 : UInt64) (FP.l2d pr)) (FP.l2d pl))), .second, .unset, .unset, .unset, .unset, .unset, .unset, .unset, .unset]) rfl ?_
      show Steps p.tables e below (T22.setTop (mkF m 89 #[.val (.long qa), .second, .val (.long qb), .second, .val (.long qc), .second, .val (.int d), .val (.int fl), .val (.long pl), .second, .val (.long pr), .second, .val (.double (FP.i2d (d &&& (1023 : Int32)))), .second, .val (.ref b13), .val (.double (FP.ddiv (FP.dmul (4636737291354636288 : UInt64) (FP.l2d pr)) (FP.l2d pl))), .second, .unset, .unset, .unset, .unset, .unset, .unset, .unset, .unset] [])) _
      refine XS.lload X22.here hx rfl (hb hby at_89) rfl ?_
      show Steps p.tables e below (T22.setTop (mkF m 91 #[.val (.long qa), .second, .val (.long qb), .second, .val (.long qc), .second, .val (.int d), .val (.int fl), .val (.long pl), .second, .val (.long pr), .second, .val (.double (FP.i2d (d &&& (1023 : Int32)))), .second, .val (.ref b13), .val (.double (FP.ddiv (FP.dmul (4636737291354636288 : UInt64) (FP.l2d pr)) (FP.l2d pl))), .second, .unset, .unset, .unset, .unset, .unset, .unset, .unset, .unset] [(.long pl)])) _
      refine XS.lconst X22.here hx rfl (hb hby at_91) ?_
      show Steps p.tables e below (T22.setTop (mkF m 92 #[.val (.long qa), .second, .val (.long qb), .second, .val (.long qc), .second, .val (.int d), .val (.int fl), .val (.long pl), .second, .val (.long pr), .second, .val (.double (FP.i2d (d &&& (1023 : Int32)))), .second, .val (.ref b13), .val (.double (FP.ddiv (FP.dmul (4636737291354636288 : UInt64) (FP.l2d pr)) (FP.l2d pl))), .second, .unset, .unset, .unset, .unset, .unset, .unset, .unset, .unset] [(.long (0 : Int64)), (.long pl)])) _
      refine XS.lcmp X22.here hx rfl (hb hby at_92) rfl ?_
      show Steps p.tables e below (T22.setTop (mkF m 93 #[.val (.long qa), .second, .val (.long qb), .second, .val (.long qc), .second, .val (.int d), .val (.int fl), .val (.long pl), .second, .val (.long pr), .second, .val (.double (FP.i2d (d &&& (1023 : Int32)))), .second, .val (.ref b13), .val (.double (FP.ddiv (FP.dmul (4636737291354636288 : UInt64) (FP.l2d pr)) (FP.l2d pl))), .second, .unset, .unset, .unset, .unset, .unset, .unset, .unset, .unset] [(.int (lcmpW pl (0 : Int64)))])) _
      refine XS.ifYes X22.here hx rfl (pc0 := 93) (pc' := 109) rfl (hb hby at_93) rfl ((if0 _ _).trans (feq (fun q => hz ((lw_eq _ _).mp q))).2) (by decide) (by decide) ?_
      show Steps p.tables e below (T22.setTop (mkF m 109 #[.val (.long qa), .second, .val (.long qb), .second, .val (.long qc), .second, .val (.int d), .val (.int fl), .val (.long pl), .second, .val (.long pr), .second, .val (.double (FP.i2d (d &&& (1023 : Int32)))), .second, .val (.ref b13), .val (.double (FP.ddiv (FP.dmul (4636737291354636288 : UInt64) (FP.l2d pr)) (FP.l2d pl))), .second, .unset, .unset, .unset, .unset, .unset, .unset, .unset, .unset] [])) _
      refine XS.dload X22.here hx rfl (hb hby at_109) rfl ?_
      show Steps p.tables e below (T22.setTop (mkF m 111 #[.val (.long qa), .second, .val (.long qb), .second, .val (.long qc), .second, .val (.int d), .val (.int fl), .val (.long pl), .second, .val (.long pr), .second, .val (.double (FP.i2d (d &&& (1023 : Int32)))), .second, .val (.ref b13), .val (.double (FP.ddiv (FP.dmul (4636737291354636288 : UInt64) (FP.l2d pr)) (FP.l2d pl))), .second, .unset, .unset, .unset, .unset, .unset, .unset, .unset, .unset] [(.double (FP.ddiv (FP.dmul (4636737291354636288 : UInt64) (FP.l2d pr)) (FP.l2d pl)))])) _
      refine X22.ldc2DoubleC hx hown (mvT hZ (hw _ (List.mem_of_getElem? (i := 46) rfl))) (g := (mkF m 111 #[.val (.long qa), .second, .val (.long qb), .second, .val (.long qc), .second, .val (.int d), .val (.int fl), .val (.long pl), .second, .val (.long pr), .second, .val (.double (FP.i2d (d &&& (1023 : Int32)))), .second, .val (.ref b13), .val (.double (FP.ddiv (FP.dmul (4636737291354636288 : UInt64) (FP.l2d pr)) (FP.l2d pl))), .second, .unset, .unset, .unset, .unset, .unset, .unset, .unset, .unset] [(.double (FP.ddiv (FP.dmul (4636737291354636288 : UInt64) (FP.l2d pr)) (FP.l2d pl)))])) rfl (hb hby at_111) _ ?_
      show Steps p.tables e below (T22.setTop (mkF m 114 #[.val (.long qa), .second, .val (.long qb), .second, .val (.long qc), .second, .val (.int d), .val (.int fl), .val (.long pl), .second, .val (.long pr), .second, .val (.double (FP.i2d (d &&& (1023 : Int32)))), .second, .val (.ref b13), .val (.double (FP.ddiv (FP.dmul (4636737291354636288 : UInt64) (FP.l2d pr)) (FP.l2d pl))), .second, .unset, .unset, .unset, .unset, .unset, .unset, .unset, .unset] [(.double (4661225614328463360 : UInt64)), (.double (FP.ddiv (FP.dmul (4636737291354636288 : UInt64) (FP.l2d pr)) (FP.l2d pl)))])) _
      refine XS.dmulS X22.here hx rfl (hb hby at_114) rfl hsh.2.2.1 rfl ?_
      show Steps p.tables e below (T22.setTop (mkF m 115 #[.val (.long qa), .second, .val (.long qb), .second, .val (.long qc), .second, .val (.int d), .val (.int fl), .val (.long pl), .second, .val (.long pr), .second, .val (.double (FP.i2d (d &&& (1023 : Int32)))), .second, .val (.ref b13), .val (.double (FP.ddiv (FP.dmul (4636737291354636288 : UInt64) (FP.l2d pr)) (FP.l2d pl))), .second, .unset, .unset, .unset, .unset, .unset, .unset, .unset, .unset] [(.double (FP.dmul (FP.ddiv (FP.dmul (4636737291354636288 : UInt64) (FP.l2d pr)) (FP.l2d pl)) (4661225614328463360 : UInt64)))])) _
      refine XS.dstore X22.here hx rfl (hb hby at_115) rfl (l' := #[.val (.long qa), .second, .val (.long qb), .second, .val (.long qc), .second, .val (.int d), .val (.int fl), .val (.long pl), .second, .val (.long pr), .second, .val (.double (FP.i2d (d &&& (1023 : Int32)))), .second, .val (.ref b13), .val (.double (FP.ddiv (FP.dmul (4636737291354636288 : UInt64) (FP.l2d pr)) (FP.l2d pl))), .second, .val (.double (FP.dmul (FP.ddiv (FP.dmul (4636737291354636288 : UInt64) (FP.l2d pr)) (FP.l2d pl)) (4661225614328463360 : UInt64))), .second, .unset, .unset, .unset, .unset, .unset, .unset]) rfl ?_
      show Steps p.tables e below (T22.setTop (mkF m 117 #[.val (.long qa), .second, .val (.long qb), .second, .val (.long qc), .second, .val (.int d), .val (.int fl), .val (.long pl), .second, .val (.long pr), .second, .val (.double (FP.i2d (d &&& (1023 : Int32)))), .second, .val (.ref b13), .val (.double (FP.ddiv (FP.dmul (4636737291354636288 : UInt64) (FP.l2d pr)) (FP.l2d pl))), .second, .val (.double (FP.dmul (FP.ddiv (FP.dmul (4636737291354636288 : UInt64) (FP.l2d pr)) (FP.l2d pl)) (4661225614328463360 : UInt64))), .second, .unset, .unset, .unset, .unset, .unset, .unset] [])) _
      refine X22.ldc2Long hx hown (mvT hZ (hw _ (List.mem_of_getElem? (i := 47) rfl))) (g := (mkF m 117 #[.val (.long qa), .second, .val (.long qb), .second, .val (.long qc), .second, .val (.int d), .val (.int fl), .val (.long pl), .second, .val (.long pr), .second, .val (.double (FP.i2d (d &&& (1023 : Int32)))), .second, .val (.ref b13), .val (.double (FP.ddiv (FP.dmul (4636737291354636288 : UInt64) (FP.l2d pr)) (FP.l2d pl))), .second, .val (.double (FP.dmul (FP.ddiv (FP.dmul (4636737291354636288 : UInt64) (FP.l2d pr)) (FP.l2d pl)) (4661225614328463360 : UInt64))), .second, .unset, .unset, .unset, .unset, .unset, .unset] [])) rfl (hb hby at_117) _ ?_
      show Steps p.tables e below (T22.setTop (mkF m 120 #[.val (.long qa), .second, .val (.long qb), .second, .val (.long qc), .second, .val (.int d), .val (.int fl), .val (.long pl), .second, .val (.long pr), .second, .val (.double (FP.i2d (d &&& (1023 : Int32)))), .second, .val (.ref b13), .val (.double (FP.ddiv (FP.dmul (4636737291354636288 : UInt64) (FP.l2d pr)) (FP.l2d pl))), .second, .val (.double (FP.dmul (FP.ddiv (FP.dmul (4636737291354636288 : UInt64) (FP.l2d pr)) (FP.l2d pl)) (4661225614328463360 : UInt64))), .second, .unset, .unset, .unset, .unset, .unset, .unset] [(.long (100 : Int64))])) _
      refine XS.lload X22.here hx rfl (hb hby at_120) rfl ?_
      show Steps p.tables e below (T22.setTop (mkF m 122 #[.val (.long qa), .second, .val (.long qb), .second, .val (.long qc), .second, .val (.int d), .val (.int fl), .val (.long pl), .second, .val (.long pr), .second, .val (.double (FP.i2d (d &&& (1023 : Int32)))), .second, .val (.ref b13), .val (.double (FP.ddiv (FP.dmul (4636737291354636288 : UInt64) (FP.l2d pr)) (FP.l2d pl))), .second, .val (.double (FP.dmul (FP.ddiv (FP.dmul (4636737291354636288 : UInt64) (FP.l2d pr)) (FP.l2d pl)) (4661225614328463360 : UInt64))), .second, .unset, .unset, .unset, .unset, .unset, .unset] [(.long pr), (.long (100 : Int64))])) _
      refine XS.lmul X22.here hx rfl (hb hby at_122) rfl ?_
      show Steps p.tables e below (T22.setTop (mkF m 123 #[.val (.long qa), .second, .val (.long qb), .second, .val (.long qc), .second, .val (.int d), .val (.int fl), .val (.long pl), .second, .val (.long pr), .second, .val (.double (FP.i2d (d &&& (1023 : Int32)))), .second, .val (.ref b13), .val (.double (FP.ddiv (FP.dmul (4636737291354636288 : UInt64) (FP.l2d pr)) (FP.l2d pl))), .second, .val (.double (FP.dmul (FP.ddiv (FP.dmul (4636737291354636288 : UInt64) (FP.l2d pr)) (FP.l2d pl)) (4661225614328463360 : UInt64))), .second, .unset, .unset, .unset, .unset, .unset, .unset] [(.long ((100 : Int64) * pr))])) _
      refine XS.bipush X22.here hx rfl (hb hby at_123) ?_
      show Steps p.tables e below (T22.setTop (mkF m 125 #[.val (.long qa), .second, .val (.long qb), .second, .val (.long qc), .second, .val (.int d), .val (.int fl), .val (.long pl), .second, .val (.long pr), .second, .val (.double (FP.i2d (d &&& (1023 : Int32)))), .second, .val (.ref b13), .val (.double (FP.ddiv (FP.dmul (4636737291354636288 : UInt64) (FP.l2d pr)) (FP.l2d pl))), .second, .val (.double (FP.dmul (FP.ddiv (FP.dmul (4636737291354636288 : UInt64) (FP.l2d pr)) (FP.l2d pl)) (4661225614328463360 : UInt64))), .second, .unset, .unset, .unset, .unset, .unset, .unset] [(.int (12 : Int32)), (.long ((100 : Int64) * pr))])) _
      refine XS.lshl X22.here hx rfl (hb hby at_125) rfl ?_
      show Steps p.tables e below (T22.setTop (mkF m 126 #[.val (.long qa), .second, .val (.long qb), .second, .val (.long qc), .second, .val (.int d), .val (.int fl), .val (.long pl), .second, .val (.long pr), .second, .val (.double (FP.i2d (d &&& (1023 : Int32)))), .second, .val (.ref b13), .val (.double (FP.ddiv (FP.dmul (4636737291354636288 : UInt64) (FP.l2d pr)) (FP.l2d pl))), .second, .val (.double (FP.dmul (FP.ddiv (FP.dmul (4636737291354636288 : UInt64) (FP.l2d pr)) (FP.l2d pl)) (4661225614328463360 : UInt64))), .second, .unset, .unset, .unset, .unset, .unset, .unset] [(.long (((100 : Int64) * pr) <<< ((12 : Int32) &&& 0x3f).toInt64))])) _
      refine XS.lstore X22.here hx rfl (hb hby at_126) rfl (l' := #[.val (.long qa), .second, .val (.long qb), .second, .val (.long qc), .second, .val (.int d), .val (.int fl), .val (.long pl), .second, .val (.long pr), .second, .val (.double (FP.i2d (d &&& (1023 : Int32)))), .second, .val (.ref b13), .val (.double (FP.ddiv (FP.dmul (4636737291354636288 : UInt64) (FP.l2d pr)) (FP.l2d pl))), .second, .val (.double (FP.dmul (FP.ddiv (FP.dmul (4636737291354636288 : UInt64) (FP.l2d pr)) (FP.l2d pl)) (4661225614328463360 : UInt64))), .second, .val (.long (((100 : Int64) * pr) <<< ((12 : Int32) &&& 0x3f).toInt64)), .second, .unset, .unset, .unset, .unset]) rfl ?_
      show Steps p.tables e below (T22.setTop (mkF m 128 #[.val (.long qa), .second, .val (.long qb), .second, .val (.long qc), .second, .val (.int d), .val (.int fl), .val (.long pl), .second, .val (.long pr), .second, .val (.double (FP.i2d (d &&& (1023 : Int32)))), .second, .val (.ref b13), .val (.double (FP.ddiv (FP.dmul (4636737291354636288 : UInt64) (FP.l2d pr)) (FP.l2d pl))), .second, .val (.double (FP.dmul (FP.ddiv (FP.dmul (4636737291354636288 : UInt64) (FP.l2d pr)) (FP.l2d pl)) (4661225614328463360 : UInt64))), .second, .val (.long (((100 : Int64) * pr) <<< ((12 : Int32) &&& 0x3f).toInt64)), .second, .unset, .unset, .unset, .unset] [])) _
      refine XS.lload X22.here hx rfl (hb hby at_128) rfl ?_
      show Steps p.tables e below (T22.setTop (mkF m 130 #[.val (.long qa), .second, .val (.long qb), .second, .val (.long qc), .second, .val (.int d), .val (.int fl), .val (.long pl), .second, .val (.long pr), .second, .val (.double (FP.i2d (d &&& (1023 : Int32)))), .second, .val (.ref b13), .val (.double (FP.ddiv (FP.dmul (4636737291354636288 : UInt64) (FP.l2d pr)) (FP.l2d pl))), .second, .val (.double (FP.dmul (FP.ddiv (FP.dmul (4636737291354636288 : UInt64) (FP.l2d pr)) (FP.l2d pl)) (4661225614328463360 : UInt64))), .second, .val (.long (((100 : Int64) * pr) <<< ((12 : Int32) &&& 0x3f).toInt64)), .second, .unset, .unset, .unset, .unset] [(.long (((100 : Int64) * pr) <<< ((12 : Int32) &&& 0x3f).toInt64))])) _
      refine XS.lload X22.here hx rfl (hb hby at_130) rfl ?_
      show Steps p.tables e below (T22.setTop (mkF m 132 #[.val (.long qa), .second, .val (.long qb), .second, .val (.long qc), .second, .val (.int d), .val (.int fl), .val (.long pl), .second, .val (.long pr), .second, .val (.double (FP.i2d (d &&& (1023 : Int32)))), .second, .val (.ref b13), .val (.double (FP.ddiv (FP.dmul (4636737291354636288 : UInt64) (FP.l2d pr)) (FP.l2d pl))), .second, .val (.double (FP.dmul (FP.ddiv (FP.dmul (4636737291354636288 : UInt64) (FP.l2d pr)) (FP.l2d pl)) (4661225614328463360 : UInt64))), .second, .val (.long (((100 : Int64) * pr) <<< ((12 : Int32) &&& 0x3f).toInt64)), .second, .unset, .unset, .unset, .unset] [(.long pl), (.long (((100 : Int64) * pr) <<< ((12 : Int32) &&& 0x3f).toInt64))])) _
      refine XS.ldiv X22.here hx rfl (hb hby at_132) rfl hz ?_
      show Steps p.tables e below (T22.setTop (mkF m 133 #[.val (.long qa), .second, .val (.long qb), .second, .val (.long qc), .second, .val (.int d), .val (.int fl), .val (.long pl), .second, .val (.long pr), .second, .val (.double (FP.i2d (d &&& (1023 : Int32)))), .second, .val (.ref b13), .val (.double (FP.ddiv (FP.dmul (4636737291354636288 : UInt64) (FP.l2d pr)) (FP.l2d pl))), .second, .val (.double (FP.dmul (FP.ddiv (FP.dmul (4636737291354636288 : UInt64) (FP.l2d pr)) (FP.l2d pl)) (4661225614328463360 : UInt64))), .second, .val (.long (((100 : Int64) * pr) <<< ((12 : Int32) &&& 0x3f).toInt64)), .second, .unset, .unset, .unset, .unset] [(.long ((((100 : Int64) * pr) <<< ((12 : Int32) &&& 0x3f).toInt64) / pl))])) _
      refine XS.lstore X22.here hx rfl (hb hby at_133) rfl (l' := #[.val (.long qa), .second, .val (.long qb), .second, .val (.long qc), .second, .val (.int d), .val (.int fl), .val (.long pl), .second, .val (.long pr), .second, .val (.double (FP.i2d (d &&& (1023 : Int32)))), .second, .val (.ref b13), .val (.double (FP.ddiv (FP.dmul (4636737291354636288 : UInt64) (FP.l2d pr)) (FP.l2d pl))), .second, .val (.double (FP.dmul (FP.ddiv (FP.dmul (4636737291354636288 : UInt64) (FP.l2d pr)) (FP.l2d pl)) (4661225614328463360 : UInt64))), .second, .val (.long (((100 : Int64) * pr) <<< ((12 : Int32) &&& 0x3f).toInt64)), .second, .val (.long ((((100 : Int64) * pr) <<< ((12 : Int32) &&& 0x3f).toInt64) / pl)), .second, .unset, .unset]) rfl ?_
      show Steps p.tables e below (T22.setTop (mkF m 135 #[.val (.long qa), .second, .val (.long qb), .second, .val (.long qc), .second, .val (.int d), .val (.int fl), .val (.long pl), .second, .val (.long pr), .second, .val (.double (FP.i2d (d &&& (1023 : Int32)))), .second, .val (.ref b13), .val (.double (FP.ddiv (FP.dmul (4636737291354636288 : UInt64) (FP.l2d pr)) (FP.l2d pl))), .second, .val (.double (FP.dmul (FP.ddiv (FP.dmul (4636737291354636288 : UInt64) (FP.l2d pr)) (FP.l2d pl)) (4661225614328463360 : UInt64))), .second, .val (.long (((100 : Int64) * pr) <<< ((12 : Int32) &&& 0x3f).toInt64)), .second, .val (.long ((((100 : Int64) * pr) <<< ((12 : Int32) &&& 0x3f).toInt64) / pl)), .second, .unset, .unset] [])) _
      refine XS.lload X22.here hx rfl (hb hby at_135) rfl ?_
      show Steps p.tables e below (T22.setTop (mkF m 137 #[.val (.long qa), .second, .val (.long qb), .second, .val (.long qc), .second, .val (.int d), .val (.int fl), .val (.long pl), .second, .val (.long pr), .second, .val (.double (FP.i2d (d &&& (1023 : Int32)))), .second, .val (.ref b13), .val (.double (FP.ddiv (FP.dmul (4636737291354636288 : UInt64) (FP.l2d pr)) (FP.l2d pl))), .second, .val (.double (FP.dmul (FP.ddiv (FP.dmul (4636737291354636288 : UInt64) (FP.l2d pr)) (FP.l2d pl)) (4661225614328463360 : UInt64))), .second, .val (.long (((100 : Int64) * pr) <<< ((12 : Int32) &&& 0x3f).toInt64)), .second, .val (.long ((((100 : Int64) * pr) <<< ((12 : Int32) &&& 0x3f).toInt64) / pl)), .second, .unset, .unset] [(.long (((100 : Int64) * pr) <<< ((12 : Int32) &&& 0x3f).toInt64))])) _
      refine XS.lload X22.here hx rfl (hb hby at_137) rfl ?_
      show Steps p.tables e below (T22.setTop (mkF m 139 #[.val (.long qa), .second, .val (.long qb), .second, .val (.long qc), .second, .val (.int d), .val (.int fl), .val (.long pl), .second, .val (.long pr), .second, .val (.double (FP.i2d (d &&& (1023 : Int32)))), .second, .val (.ref b13), .val (.double (FP.ddiv (FP.dmul (4636737291354636288 : UInt64) (FP.l2d pr)) (FP.l2d pl))), .second, .val (.double (FP.dmul (FP.ddiv (FP.dmul (4636737291354636288 : UInt64) (FP.l2d pr)) (FP.l2d pl)) (4661225614328463360 : UInt64))), .second, .val (.long (((100 : Int64) * pr) <<< ((12 : Int32) &&& 0x3f).toInt64)), .second, .val (.long ((((100 : Int64) * pr) <<< ((12 : Int32) &&& 0x3f).toInt64) / pl)), .second, .unset, .unset] [(.long pl), (.long (((100 : Int64) * pr) <<< ((12 : Int32) &&& 0x3f).toInt64))])) _
      refine XS.lrem X22.here hx rfl (hb hby at_139) rfl hz ?_
      rw [lrem_mod]
      show Steps p.tables e below (T22.setTop (mkF m 140 #[.val (.long qa), .second, .val (.long qb), .second, .val (.long qc), .second, .val (.int d), .val (.int fl), .val (.long pl), .second, .val (.long pr), .second, .val (.double (FP.i2d (d &&& (1023 : Int32)))), .second, .val (.ref b13), .val (.double (FP.ddiv (FP.dmul (4636737291354636288 : UInt64) (FP.l2d pr)) (FP.l2d pl))), .second, .val (.double (FP.dmul (FP.ddiv (FP.dmul (4636737291354636288 : UInt64) (FP.l2d pr)) (FP.l2d pl)) (4661225614328463360 : UInt64))), .second, .val (.long (((100 : Int64) * pr) <<< ((12 : Int32) &&& 0x3f).toInt64)), .second, .val (.long ((((100 : Int64) * pr) <<< ((12 : Int32) &&& 0x3f).toInt64) / pl)), .second, .unset, .unset] [(.long ((((100 : Int64) * pr) <<< ((12 : Int32) &&& 0x3f).toInt64) % pl))])) _
      refine XS.lstore X22.here hx rfl (hb hby at_140) rfl (l' := #[.val (.long qa), .second, .val (.long qb), .second, .val (.long qc), .second, .val (.int d), .val (.int fl), .val (.long pl), .second, .val (.long pr), .second, .val (.double (FP.i2d (d &&& (1023 : Int32)))), .second, .val (.ref b13), .val (.double (FP.ddiv (FP.dmul (4636737291354636288 : UInt64) (FP.l2d pr)) (FP.l2d pl))), .second, .val (.double (FP.dmul (FP.ddiv (FP.dmul (4636737291354636288 : UInt64) (FP.l2d pr)) (FP.l2d pl)) (4661225614328463360 : UInt64))), .second, .val (.long (((100 : Int64) * pr) <<< ((12 : Int32) &&& 0x3f).toInt64)), .second, .val (.long ((((100 : Int64) * pr) <<< ((12 : Int32) &&& 0x3f).toInt64) / pl)), .second, .val (.long ((((100 : Int64) * pr) <<< ((12 : Int32) &&& 0x3f).toInt64) % pl)), .second]) rfl ?_
      show Steps p.tables e below (T22.setTop (mkF m 142 #[.val (.long qa), .second, .val (.long qb), .second, .val (.long qc), .second, .val (.int d), .val (.int fl), .val (.long pl), .second, .val (.long pr), .second, .val (.double (FP.i2d (d &&& (1023 : Int32)))), .second, .val (.ref b13), .val (.double (FP.ddiv (FP.dmul (4636737291354636288 : UInt64) (FP.l2d pr)) (FP.l2d pl))), .second, .val (.double (FP.dmul (FP.ddiv (FP.dmul (4636737291354636288 : UInt64) (FP.l2d pr)) (FP.l2d pl)) (4661225614328463360 : UInt64))), .second, .val (.long (((100 : Int64) * pr) <<< ((12 : Int32) &&& 0x3f).toInt64)), .second, .val (.long ((((100 : Int64) * pr) <<< ((12 : Int32) &&& 0x3f).toInt64) / pl)), .second, .val (.long ((((100 : Int64) * pr) <<< ((12 : Int32) &&& 0x3f).toInt64) % pl)), .second] [])) _
      refine XS.lload X22.here hx rfl (hb hby at_142) rfl ?_
      show Steps p.tables e below (T22.setTop (mkF m 144 #[.val (.long qa), .second, .val (.long qb), .second, .val (.long qc), .second, .val (.int d), .val (.int fl), .val (.long pl), .second, .val (.long pr), .second, .val (.double (FP.i2d (d &&& (1023 : Int32)))), .second, .val (.ref b13), .val (.double (FP.ddiv (FP.dmul (4636737291354636288 : UInt64) (FP.l2d pr)) (FP.l2d pl))), .second, .val (.double (FP.dmul (FP.ddiv (FP.dmul (4636737291354636288 : UInt64) (FP.l2d pr)) (FP.l2d pl)) (4661225614328463360 : UInt64))), .second, .val (.long (((100 : Int64) * pr) <<< ((12 : Int32) &&& 0x3f).toInt64)), .second, .val (.long ((((100 : Int64) * pr) <<< ((12 : Int32) &&& 0x3f).toInt64) / pl)), .second, .val (.long ((((100 : Int64) * pr) <<< ((12 : Int32) &&& 0x3f).toInt64) % pl)), .second] [(.long ((((100 : Int64) * pr) <<< ((12 : Int32) &&& 0x3f).toInt64) % pl))])) _
      refine XS.lconst X22.here hx rfl (hb hby at_144) ?_
      show Steps p.tables e below (T22.setTop (mkF m 145 #[.val (.long qa), .second, .val (.long qb), .second, .val (.long qc), .second, .val (.int d), .val (.int fl), .val (.long pl), .second, .val (.long pr), .second, .val (.double (FP.i2d (d &&& (1023 : Int32)))), .second, .val (.ref b13), .val (.double (FP.ddiv (FP.dmul (4636737291354636288 : UInt64) (FP.l2d pr)) (FP.l2d pl))), .second, .val (.double (FP.dmul (FP.ddiv (FP.dmul (4636737291354636288 : UInt64) (FP.l2d pr)) (FP.l2d pl)) (4661225614328463360 : UInt64))), .second, .val (.long (((100 : Int64) * pr) <<< ((12 : Int32) &&& 0x3f).toInt64)), .second, .val (.long ((((100 : Int64) * pr) <<< ((12 : Int32) &&& 0x3f).toInt64) / pl)), .second, .val (.long ((((100 : Int64) * pr) <<< ((12 : Int32) &&& 0x3f).toInt64) % pl)), .second] [(.long (0 : Int64)), (.long ((((100 : Int64) * pr) <<< ((12 : Int32) &&& 0x3f).toInt64) % pl))])) _
      refine XS.lcmp X22.here hx rfl (hb hby at_145) rfl ?_
      show Steps p.tables e below (T22.setTop (mkF m 146 #[.val (.long qa), .second, .val (.long qb), .second, .val (.long qc), .second, .val (.int d), .val (.int fl), .val (.long pl), .second, .val (.long pr), .second, .val (.double (FP.i2d (d &&& (1023 : Int32)))), .second, .val (.ref b13), .val (.double (FP.ddiv (FP.dmul (4636737291354636288 : UInt64) (FP.l2d pr)) (FP.l2d pl))), .second, .val (.double (FP.dmul (FP.ddiv (FP.dmul (4636737291354636288 : UInt64) (FP.l2d pr)) (FP.l2d pl)) (4661225614328463360 : UInt64))), .second, .val (.long (((100 : Int64) * pr) <<< ((12 : Int32) &&& 0x3f).toInt64)), .second, .val (.long ((((100 : Int64) * pr) <<< ((12 : Int32) &&& 0x3f).toInt64) / pl)), .second, .val (.long ((((100 : Int64) * pr) <<< ((12 : Int32) &&& 0x3f).toInt64) % pl)), .second] [(.int (lcmpW ((((100 : Int64) * pr) <<< ((12 : Int32) &&& 0x3f).toInt64) % pl) (0 : Int64)))])) _
      exact kt
    by_cases hc24 : (lcmpW ((((100 : Int64) * pr) <<< ((12 : Int32) &&& 0x3f).toInt64) % pl) (0 : Int64)) = (0 : Int32)
    ·
      have hc := hsh.2.2.2.1 ((lw_eq _ _).mp hc24)
      unfold own_num at hc
      have K25 : ∀ t, Steps p.tables e below (T22.setTop (mkF m 163 #[.val (.long qa), .second, .val (.long qb), .second, .val (.long qc), .second, .val (.int d), .val (.int fl), .val (.long pl), .second, .val (.long pr), .second, .val (.double (FP.i2d (d &&& (1023 : Int32)))), .second, .val (.ref b13), .val (.double (FP.ddiv (FP.dmul (4636737291354636288 : UInt64) (FP.l2d pr)) (FP.l2d pl))), .second, .val (.double (FP.dmul (FP.ddiv (FP.dmul (4636737291354636288 : UInt64) (FP.l2d pr)) (FP.l2d pl)) (4661225614328463360 : UInt64))), .second, .val (.long (((100 : Int64) * pr) <<< ((12 : Int32) &&& 0x3f).toInt64)), .second, .val (.long ((((100 : Int64) * pr) <<< ((12 : Int32) &&& 0x3f).toInt64) / pl)), .second, .val (.long ((((100 : Int64) * pr) <<< ((12 : Int32) &&& 0x3f).toInt64) % pl)), .second] [(.int (1 : Int32))])) t → Steps p.tables e below G0 t := by
        intro t kt
        refine K23 t ?_
        refine XS.ifNo X22.here hx rfl (hb hby at_146) rfl ((if0 _ _).trans (teq hc24).2) ?_
        show Steps p.tables e below (T22.setTop (mkF m 149 #[.val (.long qa), .second, .val (.long qb), .second, .val (.long qc), .second, .val (.int d), .val (.int fl), .val (.long pl), .second, .val (.long pr), .second, .val (.double (FP.i2d (d &&& (1023 : Int32)))), .second, .val (.ref b13), .val (.double (FP.ddiv (FP.dmul (4636737291354636288 : UInt64) (FP.l2d pr)) (FP.l2d pl))), .second, .val (.double (FP.dmul (FP.ddiv (FP.dmul (4636737291354636288 : UInt64) (FP.l2d pr)) (FP.l2d pl)) (4661225614328463360 : UInt64))), .second, .val (.long (((100 : Int64) * pr) <<< ((12 : Int32) &&& 0x3f).toInt64)), .second, .val (.long ((((100 : Int64) * pr) <<< ((12 : Int32) &&& 0x3f).toInt64) / pl)), .second, .val (.long ((((100 : Int64) * pr) <<< ((12 : Int32) &&& 0x3f).toInt64) % pl)), .second] [])) _
        refine XS.dload X22.here hx rfl (hb hby at_149) rfl ?_
        show Steps p.tables e below (T22.setTop (mkF m 151 #[.val (.long qa), .second, .val (.long qb), .second, .val (.long qc), .second, .val (.int d), .val (.int fl), .val (.long pl), .second, .val (.long pr), .second, .val (.double (FP.i2d (d &&& (1023 : Int32)))), .second, .val (.ref b13), .val (.double (FP.ddiv (FP.dmul (4636737291354636288 : UInt64) (FP.l2d pr)) (FP.l2d pl))), .second, .val (.double (FP.dmul (FP.ddiv (FP.dmul (4636737291354636288 : UInt64) (FP.l2d pr)) (FP.l2d pl)) (4661225614328463360 : UInt64))), .second, .val (.long (((100 : Int64) * pr) <<< ((12 : Int32) &&& 0x3f).toInt64)), .second, .val (.long ((((100 : Int64) * pr) <<< ((12 : Int32) &&& 0x3f).toInt64) / pl)), .second, .val (.long ((((100 : Int64) * pr) <<< ((12 : Int32) &&& 0x3f).toInt64) % pl)), .second] [(.double (FP.dmul (FP.ddiv (FP.dmul (4636737291354636288 : UInt64) (FP.l2d pr)) (FP.l2d pl)) (4661225614328463360 : UInt64)))])) _
        refine XS.lload X22.here hx rfl (hb hby at_151) rfl ?_
        show Steps p.tables e below (T22.setTop (mkF m 153 #[.val (.long qa), .second, .val (.long qb), .second, .val (.long qc), .second, .val (.int d), .val (.int fl), .val (.long pl), .second, .val (.long pr), .second, .val (.double (FP.i2d (d &&& (1023 : Int32)))), .second, .val (.ref b13), .val (.double (FP.ddiv (FP.dmul (4636737291354636288 : UInt64) (FP.l2d pr)) (FP.l2d pl))), .second, .val (.double (FP.dmul (FP.ddiv (FP.dmul (4636737291354636288 : UInt64) (FP.l2d pr)) (FP.l2d pl)) (4661225614328463360 : UInt64))), .second, .val (.long (((100 : Int64) * pr) <<< ((12 : Int32) &&& 0x3f).toInt64)), .second, .val (.long ((((100 : Int64) * pr) <<< ((12 : Int32) &&& 0x3f).toInt64) / pl)), .second, .val (.long ((((100 : Int64) * pr) <<< ((12 : Int32) &&& 0x3f).toInt64) % pl)), .second] [(.long ((((100 : Int64) * pr) <<< ((12 : Int32) &&& 0x3f).toInt64) / pl)), (.double (FP.dmul (FP.ddiv (FP.dmul (4636737291354636288 : UInt64) (FP.l2d pr)) (FP.l2d pl)) (4661225614328463360 : UInt64)))])) _
        refine XS.l2dS X22.here hx rfl (hb hby at_153) rfl rfl ?_
        show Steps p.tables e below (T22.setTop (mkF m 154 #[.val (.long qa), .second, .val (.long qb), .second, .val (.long qc), .second, .val (.int d), .val (.int fl), .val (.long pl), .second, .val (.long pr), .second, .val (.double (FP.i2d (d &&& (1023 : Int32)))), .second, .val (.ref b13), .val (.double (FP.ddiv (FP.dmul (4636737291354636288 : UInt64) (FP.l2d pr)) (FP.l2d pl))), .second, .val (.double (FP.dmul (FP.ddiv (FP.dmul (4636737291354636288 : UInt64) (FP.l2d pr)) (FP.l2d pl)) (4661225614328463360 : UInt64))), .second, .val (.long (((100 : Int64) * pr) <<< ((12 : Int32) &&& 0x3f).toInt64)), .second, .val (.long ((((100 : Int64) * pr) <<< ((12 : Int32) &&& 0x3f).toInt64) / pl)), .second, .val (.long ((((100 : Int64) * pr) <<< ((12 : Int32) &&& 0x3f).toInt64) % pl)), .second] [(.double (FP.l2d ((((100 : Int64) * pr) <<< ((12 : Int32) &&& 0x3f).toInt64) / pl))), (.double (FP.dmul (FP.ddiv (FP.dmul (4636737291354636288 : UInt64) (FP.l2d pr)) (FP.l2d pl)) (4661225614328463360 : UInt64)))])) _
        refine XS.dcmpS X22.here hx rfl (hb hby at_154) rfl rfl ?_
        show Steps p.tables e below (T22.setTop (mkF m 155 #[.val (.long qa), .second, .val (.long qb), .second, .val (.long qc), .second, .val (.int d), .val (.int fl), .val (.long pl), .second, .val (.long pr), .second, .val (.double (FP.i2d (d &&& (1023 : Int32)))), .second, .val (.ref b13), .val (.double (FP.ddiv (FP.dmul (4636737291354636288 : UInt64) (FP.l2d pr)) (FP.l2d pl))), .second, .val (.double (FP.dmul (FP.ddiv (FP.dmul (4636737291354636288 : UInt64) (FP.l2d pr)) (FP.l2d pl)) (4661225614328463360 : UInt64))), .second, .val (.long (((100 : Int64) * pr) <<< ((12 : Int32) &&& 0x3f).toInt64)), .second, .val (.long ((((100 : Int64) * pr) <<< ((12 : Int32) &&& 0x3f).toInt64) / pl)), .second, .val (.long ((((100 : Int64) * pr) <<< ((12 : Int32) &&& 0x3f).toInt64) % pl)), .second] [(.int (cmpValue (FP.dcmp (FP.dmul (FP.ddiv (FP.dmul (4636737291354636288 : UInt64) (FP.l2d pr)) (FP.l2d pl)) (4661225614328463360 : UInt64)) (FP.l2d ((((100 : Int64) * pr) <<< ((12 : Int32) &&& 0x3f).toInt64) / pl))) .l))])) _
        refine XS.ifNo X22.here hx rfl (hb hby at_155) rfl ((if0 _ _).trans (teq (by rw [show FP.dcmp _ _ = some .eq from hc]; rfl)).2) ?_
        show Steps p.tables e below (T22.setTop (mkF m 158 #[.val (.long qa), .second, .val (.long qb), .second, .val (.long qc), .second, .val (.int d), .val (.int fl), .val (.long pl), .second, .val (.long pr), .second, .val (.double (FP.i2d (d &&& (1023 : Int32)))), .second, .val (.ref b13), .val (.double (FP.ddiv (FP.dmul (4636737291354636288 : UInt64) (FP.l2d pr)) (FP.l2d pl))), .second, .val (.double (FP.dmul (FP.ddiv (FP.dmul (4636737291354636288 : UInt64) (FP.l2d pr)) (FP.l2d pl)) (4661225614328463360 : UInt64))), .second, .val (.long (((100 : Int64) * pr) <<< ((12 : Int32) &&& 0x3f).toInt64)), .second, .val (.long ((((100 : Int64) * pr) <<< ((12 : Int32) &&& 0x3f).toInt64) / pl)), .second, .val (.long ((((100 : Int64) * pr) <<< ((12 : Int32) &&& 0x3f).toInt64) % pl)), .second] [])) _
        refine XS.iconst X22.here hx rfl (hb hby at_158) ?_
        show Steps p.tables e below (T22.setTop (mkF m 159 #[.val (.long qa), .second, .val (.long qb), .second, .val (.long qc), .second, .val (.int d), .val (.int fl), .val (.long pl), .second, .val (.long pr), .second, .val (.double (FP.i2d (d &&& (1023 : Int32)))), .second, .val (.ref b13), .val (.double (FP.ddiv (FP.dmul (4636737291354636288 : UInt64) (FP.l2d pr)) (FP.l2d pl))), .second, .val (.double (FP.dmul (FP.ddiv (FP.dmul (4636737291354636288 : UInt64) (FP.l2d pr)) (FP.l2d pl)) (4661225614328463360 : UInt64))), .second, .val (.long (((100 : Int64) * pr) <<< ((12 : Int32) &&& 0x3f).toInt64)), .second, .val (.long ((((100 : Int64) * pr) <<< ((12 : Int32) &&& 0x3f).toInt64) / pl)), .second, .val (.long ((((100 : Int64) * pr) <<< ((12 : Int32) &&& 0x3f).toInt64) % pl)), .second] [(.int (1 : Int32))])) _
        refine XS.goto X22.here hx rfl (pc0 := 159) (pc' := 163) rfl (hb hby at_159) (by decide) (by decide) ?_
        show Steps p.tables e below (T22.setTop (mkF m 163 #[.val (.long qa), .second, .val (.long qb), .second, .val (.long qc), .second, .val (.int d), .val (.int fl), .val (.long pl), .second, .val (.long pr), .second, .val (.double (FP.i2d (d &&& (1023 : Int32)))), .second, .val (.ref b13), .val (.double (FP.ddiv (FP.dmul (4636737291354636288 : UInt64) (FP.l2d pr)) (FP.l2d pl))), .second, .val (.double (FP.dmul (FP.ddiv (FP.dmul (4636737291354636288 : UInt64) (FP.l2d pr)) (FP.l2d pl)) (4661225614328463360 : UInt64))), .second, .val (.long (((100 : Int64) * pr) <<< ((12 : Int32) &&& 0x3f).toInt64)), .second, .val (.long ((((100 : Int64) * pr) <<< ((12 : Int32) &&& 0x3f).toInt64) / pl)), .second, .val (.long ((((100 : Int64) * pr) <<< ((12 : Int32) &&& 0x3f).toInt64) % pl)), .second] [(.int (1 : Int32))])) _
        exact kt
      obtain ⟨fs, hr, hrun, hended, hW, hsame⟩ := X22.leave (v := some (.int (1 : Int32))) (fun h => by rw [Bd.returns] at h; cases h)
      refine ⟨_, _, ?_, hrun, hended, _, _, rfl, ?_, ⟨_, rfl⟩, hW, hsame.mono (by decide) (by decide)⟩
      · rw [← hG0]
        refine K25 _ ?_
        exact retN X22 hx (t := .boolean) Bd.returns (by simp) (hb hby at_163) hr
      · show Q0 Z qa qb qc d fl h0 n0 _ T22.heap _
        rw [e22]
        exact ⟨rfl, N22⟩
    ·
      have hc := hsh.2.2.2.2 (fun q => hc24 ((lw_eq _ _).mpr q))
      unfold own_num at hc
      have K26 : ∀ t, Steps p.tables e below (T22.setTop (mkF m 189 #[.val (.long qa), .second, .val (.long qb), .second, .val (.long qc), .second, .val (.int d), .val (.int fl), .val (.long pl), .second, .val (.long pr), .second, .val (.double (FP.i2d (d &&& (1023 : Int32)))), .second, .val (.ref b13), .val (.double (FP.ddiv (FP.dmul (4636737291354636288 : UInt64) (FP.l2d pr)) (FP.l2d pl))), .second, .val (.double (FP.dmul (FP.ddiv (FP.dmul (4636737291354636288 : UInt64) (FP.l2d pr)) (FP.l2d pl)) (4661225614328463360 : UInt64))), .second, .val (.long (((100 : Int64) * pr) <<< ((12 : Int32) &&& 0x3f).toInt64)), .second, .val (.long ((((100 : Int64) * pr) <<< ((12 : Int32) &&& 0x3f).toInt64) / pl)), .second, .val (.long ((((100 : Int64) * pr) <<< ((12 : Int32) &&& 0x3f).toInt64) % pl)), .second] [(.int (1 : Int32))])) t → Steps p.tables e below G0 t := by
        intro t kt
        refine K23 t ?_
        refine XS.ifYes X22.here hx rfl (pc0 := 146) (pc' := 164) rfl (hb hby at_146) rfl ((if0 _ _).trans (feq hc24).2) (by decide) (by decide) ?_
        show Steps p.tables e below (T22.setTop (mkF m 164 #[.val (.long qa), .second, .val (.long qb), .second, .val (.long qc), .second, .val (.int d), .val (.int fl), .val (.long pl), .second, .val (.long pr), .second, .val (.double (FP.i2d (d &&& (1023 : Int32)))), .second, .val (.ref b13), .val (.double (FP.ddiv (FP.dmul (4636737291354636288 : UInt64) (FP.l2d pr)) (FP.l2d pl))), .second, .val (.double (FP.dmul (FP.ddiv (FP.dmul (4636737291354636288 : UInt64) (FP.l2d pr)) (FP.l2d pl)) (4661225614328463360 : UInt64))), .second, .val (.long (((100 : Int64) * pr) <<< ((12 : Int32) &&& 0x3f).toInt64)), .second, .val (.long ((((100 : Int64) * pr) <<< ((12 : Int32) &&& 0x3f).toInt64) / pl)), .second, .val (.long ((((100 : Int64) * pr) <<< ((12 : Int32) &&& 0x3f).toInt64) % pl)), .second] [])) _
        refine XS.lload X22.here hx rfl (hb hby at_164) rfl ?_
        show Steps p.tables e below (T22.setTop (mkF m 166 #[.val (.long qa), .second, .val (.long qb), .second, .val (.long qc), .second, .val (.int d), .val (.int fl), .val (.long pl), .second, .val (.long pr), .second, .val (.double (FP.i2d (d &&& (1023 : Int32)))), .second, .val (.ref b13), .val (.double (FP.ddiv (FP.dmul (4636737291354636288 : UInt64) (FP.l2d pr)) (FP.l2d pl))), .second, .val (.double (FP.dmul (FP.ddiv (FP.dmul (4636737291354636288 : UInt64) (FP.l2d pr)) (FP.l2d pl)) (4661225614328463360 : UInt64))), .second, .val (.long (((100 : Int64) * pr) <<< ((12 : Int32) &&& 0x3f).toInt64)), .second, .val (.long ((((100 : Int64) * pr) <<< ((12 : Int32) &&& 0x3f).toInt64) / pl)), .second, .val (.long ((((100 : Int64) * pr) <<< ((12 : Int32) &&& 0x3f).toInt64) % pl)), .second] [(.long ((((100 : Int64) * pr) <<< ((12 : Int32) &&& 0x3f).toInt64) / pl))])) _
        refine XS.l2dS X22.here hx rfl (hb hby at_166) rfl rfl ?_
        show Steps p.tables e below (T22.setTop (mkF m 167 #[.val (.long qa), .second, .val (.long qb), .second, .val (.long qc), .second, .val (.int d), .val (.int fl), .val (.long pl), .second, .val (.long pr), .second, .val (.double (FP.i2d (d &&& (1023 : Int32)))), .second, .val (.ref b13), .val (.double (FP.ddiv (FP.dmul (4636737291354636288 : UInt64) (FP.l2d pr)) (FP.l2d pl))), .second, .val (.double (FP.dmul (FP.ddiv (FP.dmul (4636737291354636288 : UInt64) (FP.l2d pr)) (FP.l2d pl)) (4661225614328463360 : UInt64))), .second, .val (.long (((100 : Int64) * pr) <<< ((12 : Int32) &&& 0x3f).toInt64)), .second, .val (.long ((((100 : Int64) * pr) <<< ((12 : Int32) &&& 0x3f).toInt64) / pl)), .second, .val (.long ((((100 : Int64) * pr) <<< ((12 : Int32) &&& 0x3f).toInt64) % pl)), .second] [(.double (FP.l2d ((((100 : Int64) * pr) <<< ((12 : Int32) &&& 0x3f).toInt64) / pl)))])) _
        refine XS.dload X22.here hx rfl (hb hby at_167) rfl ?_
        show Steps p.tables e below (T22.setTop (mkF m 169 #[.val (.long qa), .second, .val (.long qb), .second, .val (.long qc), .second, .val (.int d), .val (.int fl), .val (.long pl), .second, .val (.long pr), .second, .val (.double (FP.i2d (d &&& (1023 : Int32)))), .second, .val (.ref b13), .val (.double (FP.ddiv (FP.dmul (4636737291354636288 : UInt64) (FP.l2d pr)) (FP.l2d pl))), .second, .val (.double (FP.dmul (FP.ddiv (FP.dmul (4636737291354636288 : UInt64) (FP.l2d pr)) (FP.l2d pl)) (4661225614328463360 : UInt64))), .second, .val (.long (((100 : Int64) * pr) <<< ((12 : Int32) &&& 0x3f).toInt64)), .second, .val (.long ((((100 : Int64) * pr) <<< ((12 : Int32) &&& 0x3f).toInt64) / pl)), .second, .val (.long ((((100 : Int64) * pr) <<< ((12 : Int32) &&& 0x3f).toInt64) % pl)), .second] [(.double (FP.dmul (FP.ddiv (FP.dmul (4636737291354636288 : UInt64) (FP.l2d pr)) (FP.l2d pl)) (4661225614328463360 : UInt64))), (.double (FP.l2d ((((100 : Int64) * pr) <<< ((12 : Int32) &&& 0x3f).toInt64) / pl)))])) _
        refine XS.dcmpS X22.here hx rfl (hb hby at_169) rfl rfl ?_
        show Steps p.tables e below (T22.setTop (mkF m 170 #[.val (.long qa), .second, .val (.long qb), .second, .val (.long qc), .second, .val (.int d), .val (.int fl), .val (.long pl), .second, .val (.long pr), .second, .val (.double (FP.i2d (d &&& (1023 : Int32)))), .second, .val (.ref b13), .val (.double (FP.ddiv (FP.dmul (4636737291354636288 : UInt64) (FP.l2d pr)) (FP.l2d pl))), .second, .val (.double (FP.dmul (FP.ddiv (FP.dmul (4636737291354636288 : UInt64) (FP.l2d pr)) (FP.l2d pl)) (4661225614328463360 : UInt64))), .second, .val (.long (((100 : Int64) * pr) <<< ((12 : Int32) &&& 0x3f).toInt64)), .second, .val (.long ((((100 : Int64) * pr) <<< ((12 : Int32) &&& 0x3f).toInt64) / pl)), .second, .val (.long ((((100 : Int64) * pr) <<< ((12 : Int32) &&& 0x3f).toInt64) % pl)), .second] [(.int (cmpValue (FP.dcmp (FP.l2d ((((100 : Int64) * pr) <<< ((12 : Int32) &&& 0x3f).toInt64) / pl)) (FP.dmul (FP.ddiv (FP.dmul (4636737291354636288 : UInt64) (FP.l2d pr)) (FP.l2d pl)) (4661225614328463360 : UInt64))) .g))])) _
        refine XS.ifNo X22.here hx rfl (hb hby at_170) rfl ((if0 _ _).trans (tlt (by rw [show FP.dcmp _ _ = some .lt from hc.1]; decide)).2.1) ?_
        show Steps p.tables e below (T22.setTop (mkF m 173 #[.val (.long qa), .second, .val (.long qb), .second, .val (.long qc), .second, .val (.int d), .val (.int fl), .val (.long pl), .second, .val (.long pr), .second, .val (.double (FP.i2d (d &&& (1023 : Int32)))), .second, .val (.ref b13), .val (.double (FP.ddiv (FP.dmul (4636737291354636288 : UInt64) (FP.l2d pr)) (FP.l2d pl))), .second, .val (.double (FP.dmul (FP.ddiv (FP.dmul (4636737291354636288 : UInt64) (FP.l2d pr)) (FP.l2d pl)) (4661225614328463360 : UInt64))), .second, .val (.long (((100 : Int64) * pr) <<< ((12 : Int32) &&& 0x3f).toInt64)), .second, .val (.long ((((100 : Int64) * pr) <<< ((12 : Int32) &&& 0x3f).toInt64) / pl)), .second, .val (.long ((((100 : Int64) * pr) <<< ((12 : Int32) &&& 0x3f).toInt64) % pl)), .second] [])) _
        refine XS.dload X22.here hx rfl (hb hby at_173) rfl ?_
        show Steps p.tables e below (T22.setTop (mkF m 175 #[.val (.long qa), .second, .val (.long qb), .second, .val (.long qc), .second, .val (.int d), .val (.int fl), .val (.long pl), .second, .val (.long pr), .second, .val (.double (FP.i2d (d &&& (1023 : Int32)))), .second, .val (.ref b13), .val (.double (FP.ddiv (FP.dmul (4636737291354636288 : UInt64) (FP.l2d pr)) (FP.l2d pl))), .second, .val (.double (FP.dmul (FP.ddiv (FP.dmul (4636737291354636288 : UInt64) (FP.l2d pr)) (FP.l2d pl)) (4661225614328463360 : UInt64))), .second, .val (.long (((100 : Int64) * pr) <<< ((12 : Int32) &&& 0x3f).toInt64)), .second, .val (.long ((((100 : Int64) * pr) <<< ((12 : Int32) &&& 0x3f).toInt64) / pl)), .second, .val (.long ((((100 : Int64) * pr) <<< ((12 : Int32) &&& 0x3f).toInt64) % pl)), .second] [(.double (FP.dmul (FP.ddiv (FP.dmul (4636737291354636288 : UInt64) (FP.l2d pr)) (FP.l2d pl)) (4661225614328463360 : UInt64)))])) _
        refine XS.lload X22.here hx rfl (hb hby at_175) rfl ?_
        show Steps p.tables e below (T22.setTop (mkF m 177 #[.val (.long qa), .second, .val (.long qb), .second, .val (.long qc), .second, .val (.int d), .val (.int fl), .val (.long pl), .second, .val (.long pr), .second, .val (.double (FP.i2d (d &&& (1023 : Int32)))), .second, .val (.ref b13), .val (.double (FP.ddiv (FP.dmul (4636737291354636288 : UInt64) (FP.l2d pr)) (FP.l2d pl))), .second, .val (.double (FP.dmul (FP.ddiv (FP.dmul (4636737291354636288 : UInt64) (FP.l2d pr)) (FP.l2d pl)) (4661225614328463360 : UInt64))), .second, .val (.long (((100 : Int64) * pr) <<< ((12 : Int32) &&& 0x3f).toInt64)), .second, .val (.long ((((100 : Int64) * pr) <<< ((12 : Int32) &&& 0x3f).toInt64) / pl)), .second, .val (.long ((((100 : Int64) * pr) <<< ((12 : Int32) &&& 0x3f).toInt64) % pl)), .second] [(.long ((((100 : Int64) * pr) <<< ((12 : Int32) &&& 0x3f).toInt64) / pl)), (.double (FP.dmul (FP.ddiv (FP.dmul (4636737291354636288 : UInt64) (FP.l2d pr)) (FP.l2d pl)) (4661225614328463360 : UInt64)))])) _
        refine XS.lconst X22.here hx rfl (hb hby at_177) ?_
        show Steps p.tables e below (T22.setTop (mkF m 178 #[.val (.long qa), .second, .val (.long qb), .second, .val (.long qc), .second, .val (.int d), .val (.int fl), .val (.long pl), .second, .val (.long pr), .second, .val (.double (FP.i2d (d &&& (1023 : Int32)))), .second, .val (.ref b13), .val (.double (FP.ddiv (FP.dmul (4636737291354636288 : UInt64) (FP.l2d pr)) (FP.l2d pl))), .second, .val (.double (FP.dmul (FP.ddiv (FP.dmul (4636737291354636288 : UInt64) (FP.l2d pr)) (FP.l2d pl)) (4661225614328463360 : UInt64))), .second, .val (.long (((100 : Int64) * pr) <<< ((12 : Int32) &&& 0x3f).toInt64)), .second, .val (.long ((((100 : Int64) * pr) <<< ((12 : Int32) &&& 0x3f).toInt64) / pl)), .second, .val (.long ((((100 : Int64) * pr) <<< ((12 : Int32) &&& 0x3f).toInt64) % pl)), .second] [(.long (1 : Int64)), (.long ((((100 : Int64) * pr) <<< ((12 : Int32) &&& 0x3f).toInt64) / pl)), (.double (FP.dmul (FP.ddiv (FP.dmul (4636737291354636288 : UInt64) (FP.l2d pr)) (FP.l2d pl)) (4661225614328463360 : UInt64)))])) _
        refine XS.ladd X22.here hx rfl (hb hby at_178) rfl ?_
        show Steps p.tables e below (T22.setTop (mkF m 179 #[.val (.long qa), .second, .val (.long qb), .second, .val (.long qc), .second, .val (.int d), .val (.int fl), .val (.long pl), .second, .val (.long pr), .second, .val (.double (FP.i2d (d &&& (1023 : Int32)))), .second, .val (.ref b13), .val (.double (FP.ddiv (FP.dmul (4636737291354636288 : UInt64) (FP.l2d pr)) (FP.l2d pl))), .second, .val (.double (FP.dmul (FP.ddiv (FP.dmul (4636737291354636288 : UInt64) (FP.l2d pr)) (FP.l2d pl)) (4661225614328463360 : UInt64))), .second, .val (.long (((100 : Int64) * pr) <<< ((12 : Int32) &&& 0x3f).toInt64)), .second, .val (.long ((((100 : Int64) * pr) <<< ((12 : Int32) &&& 0x3f).toInt64) / pl)), .second, .val (.long ((((100 : Int64) * pr) <<< ((12 : Int32) &&& 0x3f).toInt64) % pl)), .second] [(.long (((((100 : Int64) * pr) <<< ((12 : Int32) &&& 0x3f).toInt64) / pl) + (1 : Int64))), (.double (FP.dmul (FP.ddiv (FP.dmul (4636737291354636288 : UInt64) (FP.l2d pr)) (FP.l2d pl)) (4661225614328463360 : UInt64)))])) _
        refine XS.l2dS X22.here hx rfl (hb hby at_179) rfl rfl ?_
        show Steps p.tables e below (T22.setTop (mkF m 180 #[.val (.long qa), .second, .val (.long qb), .second, .val (.long qc), .second, .val (.int d), .val (.int fl), .val (.long pl), .second, .val (.long pr), .second, .val (.double (FP.i2d (d &&& (1023 : Int32)))), .second, .val (.ref b13), .val (.double (FP.ddiv (FP.dmul (4636737291354636288 : UInt64) (FP.l2d pr)) (FP.l2d pl))), .second, .val (.double (FP.dmul (FP.ddiv (FP.dmul (4636737291354636288 : UInt64) (FP.l2d pr)) (FP.l2d pl)) (4661225614328463360 : UInt64))), .second, .val (.long (((100 : Int64) * pr) <<< ((12 : Int32) &&& 0x3f).toInt64)), .second, .val (.long ((((100 : Int64) * pr) <<< ((12 : Int32) &&& 0x3f).toInt64) / pl)), .second, .val (.long ((((100 : Int64) * pr) <<< ((12 : Int32) &&& 0x3f).toInt64) % pl)), .second] [(.double (FP.l2d (((((100 : Int64) * pr) <<< ((12 : Int32) &&& 0x3f).toInt64) / pl) + (1 : Int64)))), (.double (FP.dmul (FP.ddiv (FP.dmul (4636737291354636288 : UInt64) (FP.l2d pr)) (FP.l2d pl)) (4661225614328463360 : UInt64)))])) _
        refine XS.dcmpS X22.here hx rfl (hb hby at_180) rfl rfl ?_
        show Steps p.tables e below (T22.setTop (mkF m 181 #[.val (.long qa), .second, .val (.long qb), .second, .val (.long qc), .second, .val (.int d), .val (.int fl), .val (.long pl), .second, .val (.long pr), .second, .val (.double (FP.i2d (d &&& (1023 : Int32)))), .second, .val (.ref b13), .val (.double (FP.ddiv (FP.dmul (4636737291354636288 : UInt64) (FP.l2d pr)) (FP.l2d pl))), .second, .val (.double (FP.dmul (FP.ddiv (FP.dmul (4636737291354636288 : UInt64) (FP.l2d pr)) (FP.l2d pl)) (4661225614328463360 : UInt64))), .second, .val (.long (((100 : Int64) * pr) <<< ((12 : Int32) &&& 0x3f).toInt64)), .second, .val (.long ((((100 : Int64) * pr) <<< ((12 : Int32) &&& 0x3f).toInt64) / pl)), .second, .val (.long ((((100 : Int64) * pr) <<< ((12 : Int32) &&& 0x3f).toInt64) % pl)), .second] [(.int (cmpValue (FP.dcmp (FP.dmul (FP.ddiv (FP.dmul (4636737291354636288 : UInt64) (FP.l2d pr)) (FP.l2d pl)) (4661225614328463360 : UInt64)) (FP.l2d (((((100 : Int64) * pr) <<< ((12 : Int32) &&& 0x3f).toInt64) / pl) + (1 : Int64)))) .g))])) _
        refine XS.ifNo X22.here hx rfl (hb hby at_181) rfl ((if0 _ _).trans (tlt (by rw [show FP.dcmp _ _ = some .lt from hc.2]; decide)).2.1) ?_
        show Steps p.tables e below (T22.setTop (mkF m 184 #[.val (.long qa), .second, .val (.long qb), .second, .val (.long qc), .second, .val (.int d), .val (.int fl), .val (.long pl), .second, .val (.long pr), .second, .val (.double (FP.i2d (d &&& (1023 : Int32)))), .second, .val (.ref b13), .val (.double (FP.ddiv (FP.dmul (4636737291354636288 : UInt64) (FP.l2d pr)) (FP.l2d pl))), .second, .val (.double (FP.dmul (FP.ddiv (FP.dmul (4636737291354636288 : UInt64) (FP.l2d pr)) (FP.l2d pl)) (4661225614328463360 : UInt64))), .second, .val (.long (((100 : Int64) * pr) <<< ((12 : Int32) &&& 0x3f).toInt64)), .second, .val (.long ((((100 : Int64) * pr) <<< ((12 : Int32) &&& 0x3f).toInt64) / pl)), .second, .val (.long ((((100 : Int64) * pr) <<< ((12 : Int32) &&& 0x3f).toInt64) % pl)), .second] [])) _
        refine XS.iconst X22.here hx rfl (hb hby at_184) ?_
        show Steps p.tables e below (T22.setTop (mkF m 185 #[.val (.long qa), .second, .val (.long qb), .second, .val (.long qc), .second, .val (.int d), .val (.int fl), .val (.long pl), .second, .val (.long pr), .second, .val (.double (FP.i2d (d &&& (1023 : Int32)))), .second, .val (.ref b13), .val (.double (FP.ddiv (FP.dmul (4636737291354636288 : UInt64) (FP.l2d pr)) (FP.l2d pl))), .second, .val (.double (FP.dmul (FP.ddiv (FP.dmul (4636737291354636288 : UInt64) (FP.l2d pr)) (FP.l2d pl)) (4661225614328463360 : UInt64))), .second, .val (.long (((100 : Int64) * pr) <<< ((12 : Int32) &&& 0x3f).toInt64)), .second, .val (.long ((((100 : Int64) * pr) <<< ((12 : Int32) &&& 0x3f).toInt64) / pl)), .second, .val (.long ((((100 : Int64) * pr) <<< ((12 : Int32) &&& 0x3f).toInt64) % pl)), .second] [(.int (1 : Int32))])) _
        refine XS.goto X22.here hx rfl (pc0 := 185) (pc' := 189) rfl (hb hby at_185) (by decide) (by decide) ?_
        show Steps p.tables e below (T22.setTop (mkF m 189 #[.val (.long qa), .second, .val (.long qb), .second, .val (.long qc), .second, .val (.int d), .val (.int fl), .val (.long pl), .second, .val (.long pr), .second, .val (.double (FP.i2d (d &&& (1023 : Int32)))), .second, .val (.ref b13), .val (.double (FP.ddiv (FP.dmul (4636737291354636288 : UInt64) (FP.l2d pr)) (FP.l2d pl))), .second, .val (.double (FP.dmul (FP.ddiv (FP.dmul (4636737291354636288 : UInt64) (FP.l2d pr)) (FP.l2d pl)) (4661225614328463360 : UInt64))), .second, .val (.long (((100 : Int64) * pr) <<< ((12 : Int32) &&& 0x3f).toInt64)), .second, .val (.long ((((100 : Int64) * pr) <<< ((12 : Int32) &&& 0x3f).toInt64) / pl)), .second, .val (.long ((((100 : Int64) * pr) <<< ((12 : Int32) &&& 0x3f).toInt64) % pl)), .second] [(.int (1 : Int32))])) _
        exact kt
      obtain ⟨fs, hr, hrun, hended, hW, hsame⟩ := X22.leave (v := some (.int (1 : Int32))) (fun h => by rw [Bd.returns] at h; cases h)
      refine ⟨_, _, ?_, hrun, hended, _, _, rfl, ?_, ⟨_, rfl⟩, hW, hsame.mono (by decide) (by decide)⟩
      · rw [← hG0]
        refine K26 _ ?_
        exact retN X22 hx (t := .boolean) Bd.returns (by simp) (hb hby at_189) hr
      · show Q0 Z qa qb qc d fl h0 n0 _ T22.heap _
        rw [e22]
        exact ⟨rfl, N22⟩
set_option maxRecDepth 65536 in
set_option maxHeartbeats 40000000 in
theorem comes_1 {Post : Tables → Env → Array Value → State → Outcome → State → Prop} (hpost : ∀ tb e args s v u, (limb_1_1.after args s (.returned v) u = true ∧ limb_1_2.after args s (.returned v) u = true ∧ True) → FrameEnd s (.returned v) u (Jvm.fieldLocs frame_1_writes args s ++ Jvm.arrayLocs frame_1_arrays args s ++ Jvm.staticLocs frame_1_statics s) 16 128 → Post tb e args s (.returned v) u) :
    ArmFor flags0 classFile x code maxLocals ret World_1 tables_1 room_1 Calls_1 rest_1 Pre_1 Post := by
  intro l hfl _ _ p e ha hc hk s m args below hf hA hF happ hP
  obtain ⟨hcalls, hrest, hpre⟩ := hP
  obtain ⟨-, -, -, hnamed, -, -, -, hat⟩ := (Spec.applies_iff hf).mp happ
  obtain ⟨hg, hn⟩ := and_e (Cond.before_iff.mp (show (Jvm.Cond.and given_1 narrow_1).before args s = true from hpre))
  obtain ⟨g1, g2⟩ := and_e hg
  obtain ⟨g3, g4⟩ := and_e g2
  obtain ⟨g5, g6⟩ := and_e g4
  obtain ⟨g7, g8⟩ := and_e g6
  obtain ⟨g9, g10⟩ := and_e g8
  obtain ⟨w0, w1, w2, w3, w4, rfl⟩ : ∃ w0 w1 w2 w3 w4 : Value, args = #[w0, w1, w2, w3, w4] := by
    have hs : args.size = 5 := by simpa [Cond.value, given_1] using g1
    obtain ⟨L⟩ := args
    match L, hs with
    | [w0, w1, w2, w3, w4], _ => exact ⟨w0, w1, w2, w3, w4, rfl⟩
  have hw := fun d (hd : d ∈ tables_1) => atoms_spec (ws := Jvm.Cond.code x code maxLocals ret :: tables_1) hat d (List.mem_cons_of_mem _ hd)
  have hfit : Fit s := fun {y c} hc i hi => by
    obtain ⟨ha, rfl⟩ := Array.getElem?_eq_some_iff.mp hc
    have q := List.all_eq_true.mp ((Array.all_eq_true_iff_forall_mem.mp hF) _ (Array.getElem_mem ha)) i (List.mem_range.mpr hi)
    simpa [Array.getElem?_eq_getElem hi] using q
  obtain ⟨i0, ei0⟩ := isL_v g3
  obtain rfl : w0 = (.long i0) := Option.some.inj ei0
  obtain ⟨i1, ei1⟩ := isL_v g5
  obtain rfl : w1 = (.long i1) := Option.some.inj ei1
  obtain ⟨i2, ei2⟩ := isL_v g7
  obtain rfl : w2 = (.long i2) := Option.some.inj ei2
  obtain ⟨i3, ei3⟩ := is_v g9
  obtain rfl : w3 = (.int i3) := Option.some.inj ei3
  obtain ⟨i4, ei4⟩ := is_v g10
  obtain rfl : w4 = (.int i4) := Option.some.inj ei4
  obtain ⟨n, o, h1, h2, h3, _, L, rfl, ⟨rfl, N⟩, hq⟩ := rm0 l s _ hw tables_1 i0 i1 i2 i3 i4  s.heap s.heap.size (Nat.le_refl _)  p e ha hc hk s m _ below hf ((Spec.applies_iff_loose hf).mp happ).1 ⟨rfl, State.Warmed39.refl s, rfl⟩ trivial
  refine ⟨n, _, h1, h2, h3, hpost _ _ _ _ _ _ ⟨Cond.after_iff.mpr rfl, Cond.after_iff.mpr (eq_i res_at (Term.int_eval (1)) rfl), trivial⟩ ⟨hq.1, hq.2.1, (hq.2.2.sift fun y hy => Or.inr (N y hy)).mono (by decide) (by decide)⟩⟩
theorem main_1_1 : Claimed_1_1 := comes_1 fun _ _ _ _ _ _ h hF => ⟨h.1, hF⟩
theorem main_1_2 : Claimed_1_2 := comes_1 fun _ _ _ _ _ _ h hF => ⟨h.2.1, hF⟩
end Jvm.Pilot.@@N@@
namespace Jvm.Pilot.@@N@@
open Jvm Jvm.ClassFile Sem Op Lib Jvm.Free Jvm.Stand Jvm.Pilot.@@N@@.Jvm.D
/-! MADE BY PROGRAM (witnessworld.py) out of the Statement's table words and the real class files: 10 classes; the members and pool entries that the words name. The judged class is class 1, her method 1. -/
namespace start1
open Jvm.ClassFile
def u (s : String) : CpInfo := .utf8 (stringToUtf16 s)
/-- a pool by its gaps: so many unusable entries, then the entry; so many at the end -/
def gap : Nat → List CpInfo → List CpInfo
  | 0, r => r
  | n + 1, r => .unusable :: gap n r
def poolList (es : List (Nat × CpInfo)) (last : Nat) : List CpInfo := es.foldr (fun e r => gap e.1 (e.2 :: r)) (gap last [])
def pool (es : List (Nat × CpInfo)) (last : Nat) : Array CpInfo := ⟨poolList es last⟩
def fileOf (pool : Array CpInfo) (this : Nat) (attrs : Array Attribute := #[]) (ms : Array MethodInfo := #[]) (fl : Nat := 33) (sup : Nat := 0) (ifs : Array Nat := #[]) (fds : Array FieldInfo := #[]) : ClassFile where
  minorVersion := 0
  majorVersion := 65
  constantPool := pool
  accessFlags := fl
  thisClass := this
  superClass := sup
  interfaces := ifs
  fields := fds
  methods := ms
  attributes := attrs
def plain (name : String) (sup : Option ClassId) : Class where
  name := name
  kind := .ordinary
  loader := none
  accessFlags := 33
  super := sup
  interfaces := #[]
  cf := none
  fields := #[]
  methods := #[]
  instanceTypes := #[]
  staticTypes := #[]
  resolved := #[]
  callSites := []
  init := .initialized
  statics := none
  mirror := none

def pool0 : Array CpInfo := pool [(5, u "<init>"), (0, u "()V"), (1, .class_ 10), (1, u "java/lang/Object")] 113

def k0c0 : Code := { maxStack := 0, maxLocals := 1, code := object_method_1_code, exceptionTable := #[], attributes := #[] }
def k0m0 : Method := { name := "<init>", desc := "()V", sig := { parameters := [], returnType := none }, accessFlags := 1, code := some k0c0 }
/-- java/lang/Object -/
def k0 : Class := { plain "java/lang/Object" none with
  accessFlags := 33
  interfaces := #[]
  cf := some (fileOf pool0 8 #[] #[{ accessFlags := 1, nameIndex := 5, descriptorIndex := 6, attributes := #[] }] 33 0 #[] #[])
  fields := #[]
  methods := #[k0m0]
  instanceTypes := #[]
  staticTypes := #[]
  resolved := Array.replicate 124 none
  statics := none }

def pool1 : Array CpInfo := pool [(2, .class_ 4), (1, u "java/lang/Object"), (0, u "<init>"), (0, u "()V"), (0, .long 4294967295), (3, .long 9223372036854775807), (1, .class_ 14), (0, u "com/example/horarium/horarium/engine/CampusScore"), (0, .methodref 13 16), (0, .nameAndType 5 17), (0, u "(JJJJJJJJJJJD)V"), (0, .methodref 13 19), (0, .nameAndType 20 21), (0, u "preferredShare"), (0, u "()D"), (0, .double 4661225614328463360), (1, .long 100), (1, .class_ 27), (0, u "com/example/horarium/horarium/engine/CampusScorePreferredSharePinLaw"), (2, u "law"), (0, u "(JJJII)Z")] 3

def k1m0 : Method := { name := "<init>", desc := "()V", sig := { parameters := [], returnType := none }, accessFlags := 1, code := none }
def k1c1 : Code := { maxStack := 26, maxLocals := 25, code := code, exceptionTable := #[], attributes := #[] }
def k1m1 : Method := { name := "law", desc := "(JJJII)Z", sig := { parameters := [.long, .long, .long, .int, .int], returnType := some .boolean }, accessFlags := 9, code := some k1c1 }
/-- com/example/horarium/horarium/engine/CampusScorePreferredSharePinLaw -/
def k1 : Class := { plain "com/example/horarium/horarium/engine/CampusScorePreferredSharePinLaw" (some 0) with
  accessFlags := 49
  interfaces := #[]
  cf := some (fileOf pool1 26 #[] #[{ accessFlags := 1, nameIndex := 5, descriptorIndex := 6, attributes := #[] }, { accessFlags := 9, nameIndex := 30, descriptorIndex := 31, attributes := #[] }] 49 2 #[] #[])
  fields := #[]
  methods := #[k1m0, k1m1]
  instanceTypes := #[]
  staticTypes := #[]
  resolved := Array.replicate 35 none
  statics := none }

def pool2 : Array CpInfo := pool [(1, .methodref 2 3), (0, .class_ 4), (0, .nameAndType 5 6), (0, u "java/lang/Object"), (0, u "<init>"), (0, u "()V"), (0, .class_ 8), (0, u "java/lang/Record")] 13

def k2c0 : Code := { maxStack := 1, maxLocals := 1, code := jdk_30_method_1_code, exceptionTable := #[], attributes := #[] }
def k2m0 : Method := { name := "<init>", desc := "()V", sig := { parameters := [], returnType := none }, accessFlags := 4, code := some k2c0 }
/-- java/lang/Record -/
def k2 : Class := { plain "java/lang/Record" (some 0) with
  accessFlags := 1057
  interfaces := #[]
  cf := some (fileOf pool2 7 #[] #[{ accessFlags := 4, nameIndex := 5, descriptorIndex := 6, attributes := #[] }] 1057 2 #[] #[])
  fields := #[]
  methods := #[k2m0]
  instanceTypes := #[]
  staticTypes := #[]
  resolved := Array.replicate 22 none
  statics := none }

def pool3 : Array CpInfo := pool [(1, .methodref 2 3), (0, .class_ 4), (0, .nameAndType 5 6), (0, u "java/lang/Record"), (0, u "<init>"), (0, u "()V"), (0, .fieldref 8 9), (0, .class_ 10), (0, .nameAndType 11 12), (0, u "com/example/horarium/horarium/engine/CampusScore"), (0, u "lessons"), (0, u "J"), (0, .fieldref 8 14), (0, .nameAndType 15 12), (0, u "roomClashes"), (0, .fieldref 8 17), (0, .nameAndType 18 12), (0, u "teacherClashes"), (0, .fieldref 8 20), (0, .nameAndType 21 12), (0, u "curriculumClashes"), (0, .fieldref 8 23), (0, .nameAndType 24 12), (0, u "unavailable"), (0, .fieldref 8 26), (0, .nameAndType 27 12), (0, u "unqualified"), (0, .fieldref 8 29), (0, .nameAndType 30 12), (0, u "splitTeacher"), (0, .fieldref 8 32), (0, .nameAndType 33 12), (0, u "wrongRoom"), (0, .fieldref 8 35), (0, .nameAndType 36 12), (0, u "wrongShift"), (0, .fieldref 8 38), (0, .nameAndType 39 12), (0, u "placed"), (0, .fieldref 8 41), (0, .nameAndType 42 12), (0, u "preferred"), (0, .fieldref 8 44), (0, .nameAndType 45 46), (0, u "loadStddev"), (0, u "D"), (0, .double 4636737291354636288), (76, .class_ 125), (0, u "com/example/horarium/horarium/engine/CampusScore$Term"), (66, .class_ 193), (0, u "com/example/horarium/horarium/engine/CampusScore$Taught"), (73, u "(JJJJJJJJJJJD)V"), (68, u "preferredShare"), (0, u "()D")] 81

def k3c0 : Code := { maxStack := 3, maxLocals := 25, code := prog_45_method_1_code, exceptionTable := #[], attributes := #[] }
def k3m0 : Method := { name := "<init>", desc := "(JJJJJJJJJJJD)V", sig := { parameters := [.long, .long, .long, .long, .long, .long, .long, .long, .long, .long, .long, .double], returnType := none }, accessFlags := 1, code := some k3c0 }
def k3c1 : Code := { maxStack := 4, maxLocals := 1, code := prog_45_method_3_code, exceptionTable := #[], attributes := #[] }
def k3m1 : Method := { name := "preferredShare", desc := "()D", sig := { parameters := [], returnType := some .double }, accessFlags := 1, code := some k3c1 }
/-- com/example/horarium/horarium/engine/CampusScore -/
def k3 : Class := { plain "com/example/horarium/horarium/engine/CampusScore" (some 2) with
  accessFlags := 49
  interfaces := #[]
  cf := some (fileOf pool3 8 #[.nestMembers #[192, 124]] #[{ accessFlags := 1, nameIndex := 5, descriptorIndex := 267, attributes := #[] }, { accessFlags := 1, nameIndex := 336, descriptorIndex := 337, attributes := #[] }] 49 2 #[] #[{ accessFlags := 18, nameIndex := 11, descriptorIndex := 12, attributes := #[] }, { accessFlags := 18, nameIndex := 15, descriptorIndex := 12, attributes := #[] }, { accessFlags := 18, nameIndex := 18, descriptorIndex := 12, attributes := #[] }, { accessFlags := 18, nameIndex := 21, descriptorIndex := 12, attributes := #[] }, { accessFlags := 18, nameIndex := 24, descriptorIndex := 12, attributes := #[] }, { accessFlags := 18, nameIndex := 27, descriptorIndex := 12, attributes := #[] }, { accessFlags := 18, nameIndex := 30, descriptorIndex := 12, attributes := #[] }, { accessFlags := 18, nameIndex := 33, descriptorIndex := 12, attributes := #[] }, { accessFlags := 18, nameIndex := 36, descriptorIndex := 12, attributes := #[] }, { accessFlags := 18, nameIndex := 39, descriptorIndex := 12, attributes := #[] }, { accessFlags := 18, nameIndex := 42, descriptorIndex := 12, attributes := #[] }, { accessFlags := 18, nameIndex := 45, descriptorIndex := 46, attributes := #[] }])
  fields := #[{ name := "lessons", type := .long, accessFlags := 18, slot := 0, constantValue := 0 }, { name := "roomClashes", type := .long, accessFlags := 18, slot := 1, constantValue := 0 }, { name := "teacherClashes", type := .long, accessFlags := 18, slot := 2, constantValue := 0 }, { name := "curriculumClashes", type := .long, accessFlags := 18, slot := 3, constantValue := 0 }, { name := "unavailable", type := .long, accessFlags := 18, slot := 4, constantValue := 0 }, { name := "unqualified", type := .long, accessFlags := 18, slot := 5, constantValue := 0 }, { name := "splitTeacher", type := .long, accessFlags := 18, slot := 6, constantValue := 0 }, { name := "wrongRoom", type := .long, accessFlags := 18, slot := 7, constantValue := 0 }, { name := "wrongShift", type := .long, accessFlags := 18, slot := 8, constantValue := 0 }, { name := "placed", type := .long, accessFlags := 18, slot := 9, constantValue := 0 }, { name := "preferred", type := .long, accessFlags := 18, slot := 10, constantValue := 0 }, { name := "loadStddev", type := .double, accessFlags := 18, slot := 11, constantValue := 0 }]
  methods := #[k3m0, k3m1]
  instanceTypes := #[.long, .long, .long, .long, .long, .long, .long, .long, .long, .long, .long, .double]
  staticTypes := #[]
  resolved := Array.replicate 419 none
  statics := none }

def pool4 : Array CpInfo := pool [(1, u "java/lang/Cloneable"), (0, .class_ 1), (0, u "java/lang/Object"), (0, .class_ 3)] 3

/-- java/lang/Cloneable -/
def k4 : Class := { plain "java/lang/Cloneable" (some 0) with
  accessFlags := 1537
  interfaces := #[]
  cf := some (fileOf pool4 2 #[] #[] 1537 4 #[] #[])
  fields := #[]
  methods := #[]
  instanceTypes := #[]
  staticTypes := #[]
  resolved := Array.replicate 8 none
  statics := none }

def pool5 : Array CpInfo := pool [(1, u "java/io/Serializable"), (0, .class_ 1), (0, u "java/lang/Object"), (0, .class_ 3)] 3

/-- java/io/Serializable -/
def k5 : Class := { plain "java/io/Serializable" (some 0) with
  accessFlags := 1537
  interfaces := #[]
  cf := some (fileOf pool5 2 #[] #[] 1537 4 #[] #[])
  fields := #[]
  methods := #[]
  instanceTypes := #[]
  staticTypes := #[]
  resolved := Array.replicate 8 none
  statics := none }

/-- the primitive byte -/
def k6 : Class := { plain "byte" none with kind := .primitive 'B', accessFlags := 0x411 }
/-- [B -/
def k7 : Class := { plain "[B" (some 0) with kind := .array 6 .byte, interfaces := #[4, 5], accessFlags := 1041 }

/-- the primitive int -/
def k8 : Class := { plain "int" none with kind := .primitive 'I', accessFlags := 0x411 }
/-- [I -/
def k9 : Class := { plain "[I" (some 0) with kind := .array 8 .int, interfaces := #[4, 5], accessFlags := 1041 }

def heap : Heap := #[]
def classes : Array Class := #[k0, k1, k2, k3, k4, k5, k6, k7, k8, k9]
def interned : List (Array UInt16 × Addr) := []
def slotsUsed : Nat := 0
def theMethod : MethodId := ⟨1, 1⟩
def args0 : Array Value := #[.long 9, .long 7, .long 7, .int 7, .int 7]
def aboutOver (below : List Frame) : State where
  vm := { classes := classes, interned := interned.toArray }
  heap := heap
  slotsUsed := slotsUsed
  threads := #[{ frames := .invoking theMethod args0 :: below }]
def below0 : List Frame := [.native { method := ⟨0, 0⟩, args := #[] }]
def about1 : State := aboutOver below0
def p0 : Program := .bare "" "" ""
def e0 : Env := launch0.env 0 0 0
theorem w_frames : about1.frames = Frame.invoking theMethod args0 :: below0 := rfl
set_option maxRecDepth 65536 in
theorem w_args : argsFit about1.vm theMethod args0 = true := by decide +kernel
set_option maxRecDepth 65536 in
theorem w_heap : heapFits about1 = true := by decide +kernel
set_option maxRecDepth 65536 in
theorem w_runnable : about1.curStatus? = some .runnable := by decide +kernel
set_option maxRecDepth 65536 in
theorem w_alone : about1.alone = true := by decide +kernel
set_option maxRecDepth 65536 in
theorem w_named : about1.methodNamed? x = some theMethod := by decide +kernel
set_option maxRecDepth 65536 in
theorem w_hears : about1.hears theMethod below0 = true := by decide +kernel
set_option maxRecDepth 65536 in
theorem w_ripe : about1.ripe theMethod args0 below0 = true := by decide +kernel
theorem w_running : about1.status = .running := rfl
set_option maxRecDepth 65536 in
theorem w_room : about1.hasRoom e0.platform room_1 = true :=
  launch0.hasRoom_least _ room_1 (by decide +kernel) (by decide +kernel) (by decide +kernel) (by decide +kernel) (by decide +kernel) (by decide +kernel)
theorem allAtoms_all (ts : List Jvm.Cond) (a : Array Jvm.Value) (st : Jvm.State) : (allAtoms ts).before a st = ts.all (fun c => c.before a st) := by
  induction ts with
  | nil => rfl
  | cons c t ih =>
    show (Jvm.Cond.and c (allAtoms t)).before a st = _
    rw [Jvm.Cond.before_and, ih, List.all_cons]
def words1 : List Jvm.Cond := Jvm.Cond.code x code maxLocals ret :: tables_1
/-- a 'code' word, met by the world's own term for the bytes: nothing is compared byte by byte -/
theorem code_word {y : MethodName} {bytes : ByteArray} {mx : Nat} {rt : Option FieldType} {a : Array Value} {s : State} {m : MethodId} {meth : Method} {c : Code} (h1 : s.methodNamed? y = some m) (h2 : s.vm.method? m = some meth) (h3 : meth.code = some c) (h4 : c.code = bytes)
    (h5 : (c.maxLocals == mx && c.exceptionTable.isEmpty && decide (c.maxStack ≤ mostOperands) && decide (meth.sig.returnType = rt) && !meth.locks && decide (parseMethodDescriptor y.desc = some meth.sig)) = true) : (Jvm.Cond.code y bytes mx rt).before a s = true := by
  simp only [Bool.and_eq_true, beq_iff_eq, Bool.not_eq_true', decide_eq_true_eq] at h5
  obtain ⟨⟨⟨⟨⟨g1, g2⟩, g3⟩, g4⟩, g5⟩, g6⟩ := h5
  simp [Cond.before, Cond.holds, Cond.value, h1, h2, h3, h4, g1, g2, g3, g4, g5, g6]
def isCode : Jvm.Cond → Bool
  | .code _ _ _ _ => true
  | _ => false
theorem all_split {L : List Jvm.Cond} {P : Jvm.Cond → Bool} (h1 : L.all (fun c => isCode c || P c) = true) (h2 : ∀ c ∈ L.filter isCode, P c = true) : L.all P = true := by
  refine List.all_eq_true.mpr fun c hc => ?_
  have h := List.all_eq_true.mp h1 c hc
  rcases Bool.eq_false_or_eq_true (isCode c) with hi | hi
  · exact h2 c (List.mem_filter.mpr ⟨hc, hi⟩)
  · simpa [hi] using h
set_option maxRecDepth 65536 in
theorem w_c0 : (Jvm.Cond.code x code maxLocals ret).before args0 about1 = true := code_word (m := ⟨1, 1⟩) (meth := k1m1) (c := k1c1) (by decide +kernel) rfl rfl rfl (by decide +kernel)
set_option maxRecDepth 65536 in
theorem w_c1 : (Jvm.Cond.code ({ cls := "com/example/horarium/horarium/engine/CampusScore", name := "<init>", desc := "(JJJJJJJJJJJD)V" } : Jvm.MethodName) prog_45_method_1_code (25 : Nat) (Option.none : Option Jvm.ClassFile.FieldType)).before args0 about1 = true := code_word (m := ⟨3, 0⟩) (meth := k3m0) (c := k3c0) (by decide +kernel) rfl rfl rfl (by decide +kernel)
set_option maxRecDepth 65536 in
theorem w_c2 : (Jvm.Cond.code ({ cls := "java/lang/Record", name := "<init>", desc := "()V" } : Jvm.MethodName) jdk_30_method_1_code (1 : Nat) (Option.none : Option Jvm.ClassFile.FieldType)).before args0 about1 = true := code_word (m := ⟨2, 0⟩) (meth := k2m0) (c := k2c0) (by decide +kernel) rfl rfl rfl (by decide +kernel)
set_option maxRecDepth 65536 in
theorem w_c3 : (Jvm.Cond.code ({ cls := "java/lang/Object", name := "<init>", desc := "()V" } : Jvm.MethodName) object_method_1_code (1 : Nat) (Option.none : Option Jvm.ClassFile.FieldType)).before args0 about1 = true := code_word (m := ⟨0, 0⟩) (meth := k0m0) (c := k0c0) (by decide +kernel) rfl rfl rfl (by decide +kernel)
set_option maxRecDepth 65536 in
theorem w_c4 : (Jvm.Cond.code ({ cls := "com/example/horarium/horarium/engine/CampusScore", name := "preferredShare", desc := "()D" } : Jvm.MethodName) prog_45_method_3_code (1 : Nat) (Option.some Jvm.ClassFile.FieldType.double)).before args0 about1 = true := code_word (m := ⟨3, 1⟩) (meth := k3m1) (c := k3c1) (by decide +kernel) rfl rfl rfl (by decide +kernel)
def codes1 : List Jvm.Cond := [Jvm.Cond.code x code maxLocals ret, Jvm.Cond.code ({ cls := "com/example/horarium/horarium/engine/CampusScore", name := "<init>", desc := "(JJJJJJJJJJJD)V" } : Jvm.MethodName) prog_45_method_1_code (25 : Nat) (Option.none : Option Jvm.ClassFile.FieldType), Jvm.Cond.code ({ cls := "java/lang/Record", name := "<init>", desc := "()V" } : Jvm.MethodName) jdk_30_method_1_code (1 : Nat) (Option.none : Option Jvm.ClassFile.FieldType), Jvm.Cond.code ({ cls := "java/lang/Object", name := "<init>", desc := "()V" } : Jvm.MethodName) object_method_1_code (1 : Nat) (Option.none : Option Jvm.ClassFile.FieldType), Jvm.Cond.code ({ cls := "com/example/horarium/horarium/engine/CampusScore", name := "preferredShare", desc := "()D" } : Jvm.MethodName) prog_45_method_3_code (1 : Nat) (Option.some Jvm.ClassFile.FieldType.double)]
set_option maxRecDepth 65536 in
theorem codes_eq : words1.filter isCode = codes1 := rfl
theorem w_codes : ∀ c ∈ words1.filter isCode, c.before args0 about1 = true := by
  rw [codes_eq]
  intro c hc
  simp only [codes1, List.mem_cons, List.not_mem_nil, or_false] at hc
  rcases hc with rfl | rfl | rfl | rfl | rfl
  · exact w_c0
  · exact w_c1
  · exact w_c2
  · exact w_c3
  · exact w_c4
set_option maxRecDepth 65536 in
theorem w_t1 : (words1.take 24).all (fun c => isCode c || c.before args0 about1) = true := by decide +kernel
set_option maxRecDepth 65536 in
theorem w_t2 : ((words1.drop 24).take 24).all (fun c => isCode c || c.before args0 about1) = true := by decide +kernel
set_option maxRecDepth 65536 in
theorem w_t3 : ((words1.drop 24).drop 24).all (fun c => isCode c || c.before args0 about1) = true := by decide +kernel
theorem w_tables : (allAtoms (Jvm.Cond.code x code maxLocals ret :: tables_1)).before args0 about1 = true := by
  rw [allAtoms_all]
  show words1.all (fun c => c.before args0 about1) = true
  refine all_split ?_ w_codes
  rw [← List.take_append_drop 24 words1, List.all_append, w_t1, ← List.take_append_drop 24 (words1.drop 24), List.all_append, w_t2, w_t3]
  rfl
set_option maxRecDepth 65536 in
theorem w_case : (Jvm.Cond.and given_1 narrow_1).before args0 about1 = true := by decide +kernel
theorem w_applies : (headSpec (Jvm.Cond.code x code maxLocals ret :: tables_1) room_1).applies x e0.platform about1 = true :=
  (Spec.applies_iff w_frames).mpr ⟨w_running, w_runnable, w_alone, w_named, w_hears, w_ripe, w_room, w_tables⟩
theorem atStart : AtStart classFile x code maxLocals ret World_1 tables_1 room_1 Calls_1 rest_1 Pre_1 launch0 p0 e0 about1 theMethod args0 below0 :=
  ⟨lists_1, trivial, launch0.admits_env _ _ _, launch0.least_env, fairChoices_fair.cas, fairChoices_fair.clock, w_frames, w_args, w_heap, w_applies, trivial, trivial, w_case⟩
end start1
theorem witness_1 : WitnessClaimed_1 := ⟨start1.p0, start1.e0, start1.about1, start1.theMethod, start1.args0, start1.below0, start1.atStart⟩
end Jvm.Pilot.@@N@@
