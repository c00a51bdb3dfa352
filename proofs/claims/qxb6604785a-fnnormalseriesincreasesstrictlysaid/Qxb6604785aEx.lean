/-
  The double's operations on words: each runs to its end where the operands are not great; crude bounds on what comes out.
-/
import Derived.Test.Qxb6604785aOps
import Derived.Test.Qxb6604785aQuo
namespace Go.Proofs.Qxb6604785a

def huge : Rat := p2 1023

theorem add_ex {a b : Nat} {A B : Rat} (fa : fin a) (fb : fin b) (ha : ab (val a) ≤ A) (hb : ab (val b) ≤ B) (h : A + B ≤ huge) :
    ∃ c, floatBits .add .f64 a b = some c ∧ fin c ∧ Rn (val a + val b) (val c) ∧ ab (val c) ≤ 2 * (A + B) := by
  have hs : ab (val a + val b) ≤ A + B := by rw [ab_le] at ha hb ⊢; grind
  obtain ⟨c, h1, h2, h3⟩ := add_spec fa fb (show ab (val a + val b) ≤ p2 1023 from by unfold huge at h; grind)
  have := h3.fl.dbl
  exact ⟨c, h1, h2, h3, by grind⟩

theorem sub_ex {a b : Nat} {A B : Rat} (fa : fin a) (fb : fin b) (ha : ab (val a) ≤ A) (hb : ab (val b) ≤ B) (h : A + B ≤ huge) :
    ∃ c, floatBits .sub .f64 a b = some c ∧ fin c ∧ Rn (val a - val b) (val c) ∧ ab (val c) ≤ 2 * (A + B) := by
  have hs : ab (val a - val b) ≤ A + B := by rw [ab_le] at ha hb ⊢; grind
  obtain ⟨c, h1, h2, h3⟩ := sub_spec fa fb (show ab (val a - val b) ≤ p2 1023 from by unfold huge at h; grind)
  have := h3.fl.dbl
  exact ⟨c, h1, h2, h3, by grind⟩

theorem mul_ex {a b : Nat} {A B : Rat} (fa : fin a) (fb : fin b) (ha : ab (val a) ≤ A) (hb : ab (val b) ≤ B) (h : A * B ≤ huge) :
    ∃ c, floatBits .mul .f64 a b = some c ∧ fin c ∧ Rn (val a * val b) (val c) ∧ ab (val c) ≤ 2 * (A * B) := by
  have hs := ab_mul_le ha hb
  obtain ⟨c, h1, h2, h3⟩ := mul_spec fa fb (show ab (val a * val b) ≤ p2 1023 from by unfold huge at h; grind)
  have := h3.fl.dbl
  exact ⟨c, h1, h2, h3, by grind⟩

/-- Division by a number from 1 on. -/
theorem div_ex {a b : Nat} {A : Rat} (fa : fin a) (fb : fin b) (ha : ab (val a) ≤ A) (hb : 1 ≤ val b) (h : 4 * A ≤ huge) :
    ∃ c, floatBits .quo .f64 a b = some c ∧ fin c ∧ DivR (val a) (val b) (val c) ∧ ab (val c) ≤ 4 * A := by
  have hA0 : 0 ≤ A := by have := ab_nonneg (val a); grind
  have e1 : p2 1023 = 2 * p2 1022 := by
    have h := p2_succ 1022
    have e : (1022 : Int) + 1 = 1023 := by decide
    rw [e] at h
    exact h
  have hbp : ab (val b) = val b := ab_pos (by grind)
  have hAb := Rat.mul_le_mul_of_nonneg_left hb hA0
  obtain ⟨c, S, h1, h2, h3, h4⟩ := div_spec fa fb (by grind) (A := A) (by unfold huge at h; rw [e1] at h; have := p2_pos 1022; grind) (by rw [hbp]; grind)
  have hS : ab S ≤ 2 * A := by
    have e2 : ab (S * val b) = ab S * val b := by rw [ab_mul, hbp]
    have h5 : ab S * val b ≤ 2 * A := by
      rw [← e2]
      have hn := ab_nonneg (val a)
      rw [ab_le] at h4 ⊢
      have h6 := ab_le_self (val a)
      have h7 := neg_ab_le (val a)
      grind
    have h8 := Rat.mul_le_mul_of_nonneg_left hb (ab_nonneg S)
    grind
  have := h3.fl.dbl
  exact ⟨c, h1, h2, ⟨S, h3.fl, h4⟩, by grind⟩

def QuickW (a b s l : Nat) : Prop := ∃ z, floatBits .add .f64 a b = some s ∧ floatBits .sub .f64 s a = some z ∧ floatBits .sub .f64 b z = some l

theorem quick_ex {a b : Nat} {A B : Rat} (fa : fin a) (fb : fin b) (ha : ab (val a) ≤ A) (hb : ab (val b) ≤ B) (h : 32 * (A + B) ≤ huge) :
    ∃ s l, QuickW a b s l ∧ fin s ∧ fin l ∧ QuickR (val a) (val b) (val s) (val l) ∧ ab (val s) ≤ 2 * (A + B) ∧ ab (val l) ≤ 16 * (A + B) := by
  have hA0 : 0 ≤ A := by have := ab_nonneg (val a); grind
  have hB0 : 0 ≤ B := by have := ab_nonneg (val b); grind
  obtain ⟨s, s1, s2, s3, s4⟩ := add_ex fa fb ha hb (by grind)
  obtain ⟨z, z1, z2, z3, z4⟩ := sub_ex s2 fa s4 ha (by grind)
  obtain ⟨l, l1, l2, l3, l4⟩ := sub_ex fb z2 hb z4 (by grind)
  exact ⟨s, l, ⟨z, s1, z1, l1⟩, s2, l2, ⟨val z, s3, z3.fl, l3.fl⟩, by grind, by grind⟩

def TwoSumW (a b s l : Nat) : Prop :=
  ∃ bs av ar br, floatBits .add .f64 a b = some s ∧ floatBits .sub .f64 s a = some bs ∧ floatBits .sub .f64 s bs = some av ∧ floatBits .sub .f64 a av = some ar ∧ floatBits .sub .f64 b bs = some br ∧ floatBits .add .f64 ar br = some l

theorem twoSum_ex {a b : Nat} {A B : Rat} (fa : fin a) (fb : fin b) (ha : ab (val a) ≤ A) (hb : ab (val b) ≤ B) (h : 512 * (A + B) ≤ huge) :
    ∃ s l, TwoSumW a b s l ∧ fin s ∧ fin l ∧ TwoSumR (val a) (val b) (val s) (val l) ∧ ab (val s) ≤ 2 * (A + B) ∧ ab (val l) ≤ 128 * (A + B) := by
  have hA0 : 0 ≤ A := by have := ab_nonneg (val a); grind
  have hB0 : 0 ≤ B := by have := ab_nonneg (val b); grind
  obtain ⟨s, s1, s2, s3, s4⟩ := add_ex fa fb ha hb (by grind)
  obtain ⟨bs, b1, b2, b3, b4⟩ := sub_ex s2 fa s4 ha (by grind)
  obtain ⟨av, v1, v2, v3, v4⟩ := sub_ex s2 b2 s4 b4 (by grind)
  obtain ⟨ar, r1, r2, r3, r4⟩ := sub_ex fa v2 ha v4 (by grind)
  obtain ⟨br, q1, q2, q3, q4⟩ := sub_ex fb b2 hb b4 (by grind)
  obtain ⟨l, l1, l2, l3, l4⟩ := add_ex r2 q2 r4 q4 (by grind)
  exact ⟨s, l, ⟨bs, av, ar, br, s1, b1, v1, r1, q1, l1⟩, s2, l2, ⟨val bs, val av, val ar, val br, s3.fl, b3.fl, v3.fl, r3.fl, q3.fl, l3.fl⟩, by grind, by grind⟩

/-- The word of 2^27 + 1. -/
def wC : Nat := 4728779608772575232
theorem wC_fin : fin wC ∧ val wC = 134217729 := by
  have e : Ieee.double.read wC = .number false 4503599660924928 (-25) := by decide
  refine ⟨⟨_, _, _, e⟩, ?_⟩
  unfold val
  rw [e, dval_number]
  have h : p2 (-25) * 33554432 = 1 := by
    have h25 : p2 25 = 33554432 := by have := p2_nat 25; simpa using this
    rw [← h25, ← p2_add]; exact p2_zero
  have c : ((4503599660924928 : Nat) : Rat) = 4503599660924928 := rfl
  simp only [Bool.false_eq_true, if_false]
  rw [c]; grind

def SplitW (a h l : Nat) : Prop := ∃ c d, floatBits .mul .f64 wC a = some c ∧ floatBits .sub .f64 c a = some d ∧ floatBits .sub .f64 c d = some h ∧ floatBits .sub .f64 a h = some l

theorem split_ex {a : Nat} {A : Rat} (fa : fin a) (ha : ab (val a) ≤ A) (h : 1099511627776 * A ≤ huge) :
    ∃ h l, SplitW a h l ∧ fin h ∧ fin l ∧ SplitR (val a) (val h) (val l) ∧ ab (val h) ≤ 4294967296 * A ∧ ab (val l) ≤ 17179869184 * A := by
  have hA0 : 0 ≤ A := by have := ab_nonneg (val a); grind
  obtain ⟨f0, v0⟩ := wC_fin
  have b0 : ab (val wC) ≤ 134217729 := by rw [v0, ab_le]; grind
  obtain ⟨c, c1, c2, c3, c4⟩ := mul_ex f0 fa b0 ha (by grind)
  rw [v0] at c3
  obtain ⟨d, d1, d2, d3, d4⟩ := sub_ex c2 fa c4 ha (by grind)
  obtain ⟨h, h1, h2, h3, h4⟩ := sub_ex c2 d2 c4 d4 (by grind)
  obtain ⟨l, l1, l2, l3, l4⟩ := sub_ex fa h2 ha h4 (by grind)
  exact ⟨h, l, ⟨c, d, c1, d1, h1, l1⟩, h2, l2, ⟨val c, val d, c3.fl, d3.fl, h3.fl, l3.fl⟩, by grind, by grind⟩

def TwoProdW (a b p e : Nat) : Prop :=
  ∃ ah al bh bl x1 y1 x2 y2 x3 y3 x4, floatBits .mul .f64 a b = some p ∧ SplitW a ah al ∧ SplitW b bh bl ∧ floatBits .mul .f64 ah bh = some x1 ∧ floatBits .sub .f64 x1 p = some y1 ∧ floatBits .mul .f64 ah bl = some x2 ∧ floatBits .add .f64 y1 x2 = some y2 ∧
    floatBits .mul .f64 al bh = some x3 ∧ floatBits .add .f64 y2 x3 = some y3 ∧ floatBits .mul .f64 al bl = some x4 ∧ floatBits .add .f64 y3 x4 = some e

theorem twoProd_ex {a b : Nat} {A B S : Rat} (fa : fin a) (fb : fin b) (ha : ab (val a) ≤ A) (hb : ab (val b) ≤ B) (hS : S = A * B) (h1 : 1099511627776 * A ≤ huge) (h2 : 1099511627776 * B ≤ huge) (h3 : 1237940039285380274899124224 * S ≤ huge) :
    ∃ p e, TwoProdW a b p e ∧ fin p ∧ fin e ∧ TwoProdR (val a) (val b) (val p) (val e) ∧ ab (val p) ≤ 2 * S ∧ ab (val e) ≤ 618970019642690137449562112 * S := by
  have hA0 : 0 ≤ A := by have := ab_nonneg (val a); grind
  have hB0 : 0 ≤ B := by have := ab_nonneg (val b); grind
  have hS0 : 0 ≤ S := by rw [hS]; exact Rat.mul_nonneg hA0 hB0
  obtain ⟨p, p1, p2, p3, p4⟩ := mul_ex fa fb ha hb (by grind)
  obtain ⟨ah, al, sa, fah, fal, ra, bah, bal⟩ := split_ex fa ha h1
  obtain ⟨bh, bl, sb, fbh, fbl, rb, bbh, bbl⟩ := split_ex fb hb h2
  obtain ⟨x1, x11, x12, x13, x14⟩ := mul_ex fah fbh bah bbh (by grind)
  obtain ⟨y1, y11, y12, y13, y14⟩ := sub_ex x12 p2 x14 p4 (by grind)
  obtain ⟨x2, x21, x22, x23, x24⟩ := mul_ex fah fbl bah bbl (by grind)
  obtain ⟨y2, y21, y22, y23, y24⟩ := add_ex y12 x22 y14 x24 (by grind)
  obtain ⟨x3, x31, x32, x33, x34⟩ := mul_ex fal fbh bal bbh (by grind)
  obtain ⟨y3, y31, y32, y33, y34⟩ := add_ex y22 x32 y24 x34 (by grind)
  obtain ⟨x4, x41, x42, x43, x44⟩ := mul_ex fal fbl bal bbl (by grind)
  obtain ⟨e, e1, e2, e3, e4⟩ := add_ex y32 x42 y34 x44 (by grind)
  exact ⟨p, e, ⟨ah, al, bh, bl, x1, y1, x2, y2, x3, y3, x4, p1, sa, sb, x11, y11, x21, y21, x31, y31, x41, e1⟩, p2, e2,
    ⟨val ah, val al, val bh, val bl, val x1, val y1, val x2, val y2, val x3, val y3, val x4, p3.fl, ra, rb, x13.fl, y13.fl, x23.fl, y23.fl, x33.fl, y33.fl, x43.fl, e3.fl⟩, by grind, by grind⟩

end Go.Proofs.Qxb6604785a
