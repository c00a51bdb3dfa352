/-
  add, mul, mulFloat, quo on words: each runs to its end; crude bounds.
-/
import Derived.Test.Qxb6604785aEx
namespace Go.Proofs.Qxb6604785a

def AddW (ah al bh bl x y h l : Nat) : Prop :=
  ∃ s sl t tl v1 s2l, TwoSumW ah bh s sl ∧ TwoSumW al bl t tl ∧ floatBits .add .f64 sl t = some v1 ∧ QuickW s v1 x s2l ∧ floatBits .add .f64 s2l tl = some y ∧ QuickW x y h l

theorem addW_ex {ah al bh bl : Nat} {A : Rat} (f1 : fin ah) (f2 : fin al) (f3 : fin bh) (f4 : fin bl) (h1 : ab (val ah) ≤ A) (h2 : ab (val al) ≤ A) (h3 : ab (val bh) ≤ A) (h4 : ab (val bl) ≤ A) (h : 16777216 * A ≤ huge) :
    ∃ x y h l, AddW ah al bh bl x y h l ∧ fin x ∧ fin y ∧ fin h ∧ fin l ∧ AddR (val ah) (val al) (val bh) (val bl) (val x) (val y) (val h) (val l) ∧ ab (val h) ≤ 65536 * A ∧ ab (val l) ≤ 524288 * A := by
  have hA0 : 0 ≤ A := by have := ab_nonneg (val ah); grind
  obtain ⟨s, sl, s1, s2, s3, s4, s5, s6⟩ := twoSum_ex f1 f3 h1 h3 (by grind)
  obtain ⟨t, tl, t1, t2, t3, t4, t5, t6⟩ := twoSum_ex f2 f4 h2 h4 (by grind)
  obtain ⟨v1, v11, v12, v13, v14⟩ := add_ex s3 t2 s6 t5 (by grind)
  obtain ⟨x, s2l, q1, q2, q3, q4, q5, q6⟩ := quick_ex s2 v12 s5 v14 (by grind)
  obtain ⟨y, y1, y2, y3, y4⟩ := add_ex q3 t3 q6 t6 (by grind)
  obtain ⟨h, l, r1, r2, r3, r4, r5, r6⟩ := quick_ex q2 y2 q5 y4 (by grind)
  exact ⟨x, y, h, l, ⟨s, sl, t, tl, v1, s2l, s1, t1, v11, q1, y1, r1⟩, q2, y2, r2, r3, ⟨val s, val sl, val t, val tl, val v1, val s2l, s4, t4, v13.fl, q4, y3.fl, r4⟩, by grind, by grind⟩

def MulW (ah al bh bl h l : Nat) : Prop :=
  ∃ p e q1 q2 q3 q, TwoProdW ah bh p e ∧ floatBits .mul .f64 ah bl = some q1 ∧ floatBits .add .f64 e q1 = some q2 ∧ floatBits .mul .f64 al bh = some q3 ∧ floatBits .add .f64 q2 q3 = some q ∧ QuickW p q h l

theorem mulW_ex {ah al bh bl : Nat} {A B S : Rat} (f1 : fin ah) (f2 : fin al) (f3 : fin bh) (f4 : fin bl) (h1 : ab (val ah) ≤ A) (h2 : ab (val al) ≤ A) (h3 : ab (val bh) ≤ B) (h4 : ab (val bl) ≤ B) (hS : S = A * B) (g1 : 1099511627776 * A ≤ huge) (g2 : 1099511627776 * B ≤ huge) (g3 : 316912650057057350374175801344 * S ≤ huge) :
    ∃ h l, MulW ah al bh bl h l ∧ fin h ∧ fin l ∧ MulR (val ah) (val al) (val bh) (val bl) (val h) (val l) ∧ ab (val h) ≤ 158456325028528675187087900672 * S ∧ ab (val l) ≤ 158456325028528675187087900672 * S := by
  have hA0 : 0 ≤ A := by have := ab_nonneg (val ah); grind
  have hB0 : 0 ≤ B := by have := ab_nonneg (val bh); grind
  have hS0 : 0 ≤ S := by rw [hS]; exact Rat.mul_nonneg hA0 hB0
  obtain ⟨p, e, p1, p2, p3, p4, p5, p6⟩ := twoProd_ex f1 f3 h1 h3 hS g1 g2 (by grind)
  obtain ⟨q1, q11, q12, q13, q14⟩ := mul_ex f1 f4 h1 h4 (by grind)
  obtain ⟨q2, q21, q22, q23, q24⟩ := add_ex p3 q12 p6 q14 (by grind)
  obtain ⟨q3, q31, q32, q33, q34⟩ := mul_ex f2 f3 h2 h3 (by grind)
  obtain ⟨q, q41, q42, q43, q44⟩ := add_ex q22 q32 q24 q34 (by grind)
  obtain ⟨h, l, r1, r2, r3, r4, r5, r6⟩ := quick_ex p2 q42 p5 q44 (by grind)
  exact ⟨h, l, ⟨p, e, q1, q2, q3, q, p1, q11, q21, q31, q41, r1⟩, r2, r3, ⟨val p, val e, val q1, val q2, val q3, val q, p4, q13.fl, q23.fl, q33.fl, q43.fl, r4⟩, by grind, by grind⟩

def MulFW (ah al b h l : Nat) : Prop :=
  ∃ p e q1 q, TwoProdW ah b p e ∧ floatBits .mul .f64 al b = some q1 ∧ floatBits .add .f64 e q1 = some q ∧ QuickW p q h l

theorem mulFW_ex {ah al b : Nat} {A B S : Rat} (f1 : fin ah) (f2 : fin al) (f3 : fin b) (h1 : ab (val ah) ≤ A) (h2 : ab (val al) ≤ A) (h3 : ab (val b) ≤ B) (hS : S = A * B) (g1 : 1099511627776 * A ≤ huge) (g2 : 1099511627776 * B ≤ huge) (g3 : 316912650057057350374175801344 * S ≤ huge) :
    ∃ h l, MulFW ah al b h l ∧ fin h ∧ fin l ∧ MulFR (val ah) (val al) (val b) (val h) (val l) ∧ ab (val h) ≤ 158456325028528675187087900672 * S ∧ ab (val l) ≤ 158456325028528675187087900672 * S := by
  have hA0 : 0 ≤ A := by have := ab_nonneg (val ah); grind
  have hB0 : 0 ≤ B := by have := ab_nonneg (val b); grind
  have hS0 : 0 ≤ S := by rw [hS]; exact Rat.mul_nonneg hA0 hB0
  obtain ⟨p, e, p1, p2, p3, p4, p5, p6⟩ := twoProd_ex f1 f3 h1 h3 hS g1 g2 (by grind)
  obtain ⟨q1, q11, q12, q13, q14⟩ := mul_ex f2 f3 h2 h3 (by grind)
  obtain ⟨q, q21, q22, q23, q24⟩ := add_ex p3 q12 p6 q14 (by grind)
  obtain ⟨h, l, r1, r2, r3, r4, r5, r6⟩ := quick_ex p2 q22 p5 q24 (by grind)
  exact ⟨h, l, ⟨p, e, q1, q, p1, q11, q21, r1⟩, r2, r3, ⟨val p, val e, val q1, val q, p4, q13.fl, q23.fl, r4⟩, by grind, by grind⟩

def QuoW (ah al bh bl h l : Nat) : Prop :=
  ∃ q mh ml x y rh rl d, floatBits .quo .f64 ah bh = some q ∧ MulFW bh bl (Op.negFloat .f64 q) mh ml ∧ AddW ah al mh ml x y rh rl ∧ floatBits .quo .f64 rh bh = some d ∧ QuickW q d h l

theorem quoW_ex {ah al bh bl : Nat} {A : Rat} (f1 : fin ah) (f2 : fin al) (f3 : fin bh) (f4 : fin bl) (h1 : ab (val ah) ≤ A) (h2 : ab (val al) ≤ A) (h3 : 1 ≤ val bh) (h4 : val bh ≤ 4096) (h5 : val bl = 0) (g1 : 348449143727040986586495598010130648530944 * A ≤ huge) (g2 : 1152921504606846976 ≤ huge) :
    ∃ h l, QuoW ah al bh bl h l ∧ fin h ∧ fin l ∧ QuoR (val ah) (val al) (val bh) 0 (val h) (val l) ∧ ab (val h) ≤ 174224571863520493293247799005065324265472 * A ∧ ab (val l) ≤ 174224571863520493293247799005065324265472 * A := by
  have hA0 : 0 ≤ A := by have := ab_nonneg (val ah); grind
  obtain ⟨q, q1, q2, q3, q4⟩ := div_ex f1 f3 h1 h3 (by grind)
  obtain ⟨n1, n2⟩ := neg_spec q2
  obtain ⟨mh, ml, m1, m2, m3, m4, m5, m6⟩ := mulFW_ex f3 f4 n1 (A := 4096) (B := 4 * A) (S := 16384 * A) (by rw [ab_le]; grind) (by rw [h5, ab_le]; grind) (by rw [n2, ab_neg]; exact q4) (by grind) (by grind) (by grind) (by grind)
  obtain ⟨x, y, rh, rl, a1, a2, a3, a4, a5, a6, a7, a8⟩ := addW_ex f1 f2 m2 m3 (A := 2596148429267413814265248164610048 * A) (by grind) (by grind) (by grind) (by grind) (by grind)
  obtain ⟨d, d1, d2, d3, d4⟩ := div_ex a4 f3 a7 h3 (by grind)
  obtain ⟨h, l, r1, r2, r3, r4, r5, r6⟩ := quick_ex q2 d2 q4 d4 (by grind)
  rw [n2, h5] at m4
  exact ⟨h, l, ⟨q, mh, ml, x, y, rh, rl, d, q1, m1, a1, d1, r1⟩, r2, r3, ⟨val q, val mh, val ml, val x, val y, val rh, val rl, val d, q3, m4, a6, d3, r4⟩, by grind, by grind⟩

end Go.Proofs.Qxb6604785a
