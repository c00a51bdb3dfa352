/-
  Sums with their errors over the rationals: quickTwoSum, twoSum.
-/
import Derived.Test.Qxb6604785aSplit
namespace Go.Proofs.Qxb6604785a

def QuickR (a b s l : Rat) : Prop := ∃ z, Rn (a + b) s ∧ Fl (s - a) z ∧ Fl (b - z) l

def TwoSumR (a b s l : Rat) : Prop := ∃ bs av ar br, Fl (a + b) s ∧ Fl (s - a) bs ∧ Fl (s - bs) av ∧ Fl (a - av) ar ∧ Fl (b - bs) br ∧ Fl (ar + br) l

/-- quickTwoSum, b no greater than the scale. -/
theorem quick_err {a b s l S B : Rat} (H : QuickR a b s l) (ha : ab a ≤ S) (hb : ab b ≤ B) (hBS : B ≤ S) (hB0 : 0 ≤ B) (hbig : 1267650600228229401496703205376 * tiny ≤ S) :
    ab (s - (a + b)) ≤ (S + B) / 9007199254740992 ∧ ab l ≤ (S + B) / 4503599627370496 ∧ ab (s + l - (a + b)) ≤ (B + S / 2251799813685248) / 4503599627370496 := by
  obtain ⟨z, h1, h2, h3⟩ := H
  have t0 := tiny_pos
  rw [ab_le] at ha hb
  have r1 := h1.fl.err' (A := S + B) (by rw [ab_le]; grind) (by grind)
  rw [ab_le] at r1
  have r2 := h2.err' (A := B + S / 2251799813685248) (by rw [ab_le]; grind) (by grind)
  rw [ab_le] at r2
  have r3 := h3.err' (A := (S + B) / 9007199254740992 + (B + S / 2251799813685248) / 9007199254740992) (by rw [ab_le]; grind) (by grind)
  rw [ab_le] at r3
  refine ⟨by rw [ab_le]; grind, by rw [ab_le]; grind, by rw [ab_le]; grind⟩

/-- twoSum, roughly, both below the scale. -/
theorem twoSum_rough {a b s l B : Rat} (H : TwoSumR a b s l) (ha : ab a ≤ B) (hb : ab b ≤ B) (hbig : 1267650600228229401496703205376 * tiny ≤ B) :
    ab (s - (a + b)) ≤ B / 4503599627370496 ∧ ab l ≤ B / 562949953421312 := by
  obtain ⟨bs, av, ar, br, h1, h2, h3, h4, h5, h6⟩ := H
  have t0 := tiny_pos
  rw [ab_le] at ha hb
  have r1 := h1.err' (A := 2 * B) (by rw [ab_le]; grind) (by grind)
  rw [ab_le] at r1
  have r2 := h2.err' (A := 2 * B) (by rw [ab_le]; grind) (by grind)
  rw [ab_le] at r2
  have r3 := h3.err' (A := 2 * B) (by rw [ab_le]; grind) (by grind)
  rw [ab_le] at r3
  have r4 := h4.err' (A := B / 1125899906842624) (by rw [ab_le]; grind) (by grind)
  rw [ab_le] at r4
  have r5 := h5.err' (A := B / 1125899906842624) (by rw [ab_le]; grind) (by grind)
  rw [ab_le] at r5
  have r6 := h6.err' (A := B / 600000000000000) (by rw [ab_le]; grind) (by grind)
  rw [ab_le] at r6
  refine ⟨by rw [ab_le]; grind, by rw [ab_le]; grind⟩

/-- twoSum once the fourth operand is exact. -/
theorem twoSum_core {a b s l S bs av ar br : Rat} (h1 : Fl (a + b) s) (h2 : Fl (s - a) bs) (hav : av = s - bs) (h4 : Fl (a - av) ar) (h5 : Fl (b - bs) br) (h6 : Fl (ar + br) l)
    (hb : ab b ≤ S) (hab : ab (a + b) ≤ S) (hbig : 1606938044258990275541962092341162602522202993782792835301376 * tiny ≤ S) :
    ab (s - (a + b)) ≤ S / 9007199254740992 ∧ ab l ≤ S / 4503599627370496 ∧ ab (s + l - (a + b)) ≤ S / 1267650600228229401496703205376 := by
  have t0 := tiny_pos
  have r1 := h1.err' hab (by grind)
  rw [ab_le] at r1 hb hab
  have r2 := h2.err' (A := 2 * S) (by rw [ab_le]; grind) (by grind)
  rw [ab_le] at r2
  have r4 := h4.err' (A := S / 4503599627370496) (by rw [ab_le]; grind) (by grind)
  rw [ab_le] at r4
  have r5 := h5.err' (A := S / 2251799813685248) (by rw [ab_le]; grind) (by grind)
  rw [ab_le] at r5
  have r6 := h6.err' (A := S / 4503599627370496) (by rw [ab_le]; grind) (by grind)
  rw [ab_le] at r6
  refine ⟨by rw [ab_le]; grind, by rw [ab_le]; grind, by rw [ab_le]; grind⟩

/-- s - bs is exact where both summands are positive. -/
theorem twoSum_exact {a b s bs : Rat} (ra : Rep a) (rb : Rep b) (a0 : 0 < a) (b0 : 0 < b) (hbig : tiny ≤ a ∨ tiny ≤ b) (h1 : Fl (a + b) s) (h2 : Fl (s - a) bs) : Rep (s - bs) := by
  have t0 := tiny_pos
  by_cases hba : b ≤ a
  · -- bs is exact
    have hta : tiny ≤ a := by grind
    obtain ⟨k, hk, k1, k2⟩ := unit_of hta
    have hu := p2_pos k
    obtain ⟨za, hza⟩ := ra.mult (k := k) (by rw [ab_pos (Rat.le_of_lt a0)]; exact k1)
    obtain ⟨zs, hzs⟩ := h1.mult hk (by rw [ab_pos (by grind)]; grind)
    have hs : s - a = ((zs - za : Int) : Rat) * p2 k := by rw [hzs, hza, Rat.intCast_sub]; grind
    have e1 := p2_succ k
    have r1 := h1.half (k := k + 1) (by omega) (by rw [e1, ab_pos (by grind)]; grind)
    rw [e1, ab_le] at r1
    have hsa : a ≤ s := h1.ge ra (by grind)
    -- s - a is at most 2^53 units: a whole number of units below a + one unit
    have hlt : zs - za < za + 2 := by
      have : ((zs - za : Int) : Rat) < ((za + 2 : Int) : Rat) := by
        rw [Rat.intCast_add]
        have c : ((2 : Int) : Rat) = 2 := rfl
        rw [c]
        exact Rat.lt_of_mul_lt_mul_right (c := p2 k) (by grind) (Rat.le_of_lt hu)
      exact Rat.intCast_lt_intCast.1 this
    have hzl : za < 9007199254740992 := by
      have : (za : Rat) < ((9007199254740992 : Int) : Rat) := by
        have c : ((9007199254740992 : Int) : Rat) = 9007199254740992 := rfl
        rw [c]
        exact Rat.lt_of_mul_lt_mul_right (c := p2 k) (by grind) (Rat.le_of_lt hu)
      exact Rat.intCast_lt_intCast.1 this
    have hz0 : 0 ≤ zs - za := by
      have : ((0 : Int) : Rat) ≤ ((zs - za : Int) : Rat) := by
        have c : ((0 : Int) : Rat) = 0 := rfl
        rw [c]
        exact Rat.le_of_mul_le_mul_right (c := p2 k) (by grind) hu
      exact Rat.intCast_le_intCast.1 this
    have hr : Rep (s - a) := by rw [hs]; exact rep_mk _ _ hk (by omega) (by omega)
    have := h2.exact hr
    rw [this, show s - (s - a) = a from by grind]
    exact ra
  · have hab' : a < b := by grind
    have htb : tiny ≤ b := by grind
    obtain ⟨k, hk, k1, k2⟩ := unit_of htb
    have hu := p2_pos k
    obtain ⟨zb, hzb⟩ := rb.mult (k := k) (by rw [ab_pos (Rat.le_of_lt b0)]; exact k1)
    obtain ⟨zs, hzs⟩ := h1.mult hk (by rw [ab_pos (by grind)]; grind)
    have e1 := p2_succ k
    have r1 := h1.half (k := k + 1) (by omega) (by rw [e1, ab_pos (by grind)]; grind)
    rw [e1, ab_le] at r1
    have c53 : ((9007199254740992 : Int) : Rat) = 9007199254740992 := rfl
    have hzl : zb < 9007199254740992 := Rat.intCast_lt_intCast.1 (by rw [c53]; exact Rat.lt_of_mul_lt_mul_right (c := p2 k) (by grind) (Rat.le_of_lt hu))
    by_cases hlow : 4503599627370496 * p2 k ≤ s - a
    · obtain ⟨z2, hz2⟩ := h2.mult hk (by rw [ab_pos (by grind)]; exact hlow)
      have r2 := h2.half (k := k + 1) (by omega) (by rw [e1, ab_pos (by grind)]; grind)
      rw [e1, ab_le] at r2
      have hd : s - bs = ((zs - z2 : Int) : Rat) * p2 k := by rw [hzs, hz2, Rat.intCast_sub]; grind
      have u1 : zs - z2 < zb + 1 + 1 := by
        have : ((zs - z2 : Int) : Rat) < ((zb + 1 + 1 : Int) : Rat) := by
          rw [Rat.intCast_add, Rat.intCast_add]
          have c : ((1 : Int) : Rat) = 1 := rfl
          rw [c]
          exact Rat.lt_of_mul_lt_mul_right (c := p2 k) (by grind) (Rat.le_of_lt hu)
        exact Rat.intCast_lt_intCast.1 this
      have u2 : -2 < zs - z2 := by
        have : ((-2 : Int) : Rat) < ((zs - z2 : Int) : Rat) := by
          have c : ((-2 : Int) : Rat) = -2 := rfl
          rw [c]
          exact Rat.lt_of_mul_lt_mul_right (c := p2 k) (by grind) (Rat.le_of_lt hu)
        exact Rat.intCast_lt_intCast.1 this
      rw [hd]
      exact rep_mk _ _ hk (by omega) (by omega)
    · -- b is the least of its binade
      have hb52 : zb = 4503599627370496 := by
        have l1 : 4503599627370496 ≤ zb := by
          have c : ((4503599627370496 : Int) : Rat) = 4503599627370496 := rfl
          exact Rat.intCast_le_intCast.1 (by rw [c]; exact Rat.le_of_mul_le_mul_right (c := p2 k) (by grind) hu)
        have l2 : zb < 4503599627370497 := by
          have c : ((4503599627370497 : Int) : Rat) = 4503599627370497 := rfl
          exact Rat.intCast_lt_intCast.1 (by rw [c]; exact Rat.lt_of_mul_lt_mul_right (c := p2 k) (by grind) (Rat.le_of_lt hu))
        omega
      have hbv : b = 4503599627370496 * p2 k := by
        rw [hzb, hb52]
        have c : ((4503599627370496 : Int) : Rat) = 4503599627370496 := rfl
        rw [c]
      by_cases hk1 : k = -1074
      · -- the least unit: all are whole
        obtain ⟨m, j, hj, _, _, rfl⟩ := h2.1
        obtain ⟨n, _, en⟩ := p2_up (show k ≤ j by omega)
        have r2 := h2.half (k := k) hk (by rw [ab_le]; grind)
        rw [ab_le] at r2
        refine rep_int (z := zs - m * 2 ^ n) hk ?_ ?_
        · rw [hzs, en, Rat.intCast_sub, Rat.intCast_mul]; grind
        · rw [ab_le]; grind
      · have e2 : p2 k = 2 * p2 (k - 1) := by rw [← p2_succ, show k - 1 + 1 = k from by omega]
        have hu' := p2_pos (k - 1)
        obtain ⟨z2, hz2⟩ := h2.mult (k := k - 1) (by omega) (by rw [ab_pos (by grind)]; grind)
        have r2 := h2.half (k := k - 1) (by omega) (by rw [ab_le]; grind)
        rw [ab_le] at r2
        have hd : s - bs = ((zs * 2 - z2 : Int) : Rat) * p2 (k - 1) := by
          rw [hzs, hz2, e2, Rat.intCast_sub, Rat.intCast_mul]
          have c : ((2 : Int) : Rat) = 2 := rfl
          rw [c]; grind
        have u1 : zs * 2 - z2 < 9007199254740993 := by
          have c : ((9007199254740993 : Int) : Rat) = 9007199254740993 := rfl
          exact Rat.intCast_lt_intCast.1 (by rw [c]; exact Rat.lt_of_mul_lt_mul_right (c := p2 (k - 1)) (by grind) (Rat.le_of_lt hu'))
        have u2 : -2 < zs * 2 - z2 := by
          have c : ((-2 : Int) : Rat) = -2 := rfl
          exact Rat.intCast_lt_intCast.1 (by rw [c]; exact Rat.lt_of_mul_lt_mul_right (c := p2 (k - 1)) (by grind) (Rat.le_of_lt hu'))
        rw [hd]
        exact rep_mk _ _ (by omega) (by omega) (by omega)

/-- twoSum of two positive numbers, to within 2^-100. -/
theorem twoSum_pos {a b s l : Rat} (H : TwoSumR a b s l) (ra : Rep a) (rb : Rep b) (a0 : 0 < a) (b0 : 0 < b) (hbig : 1606938044258990275541962092341162602522202993782792835301376 * tiny ≤ a + b) :
    ab (s - (a + b)) ≤ (a + b) / 9007199254740992 ∧ ab l ≤ (a + b) / 4503599627370496 ∧ ab (s + l - (a + b)) ≤ (a + b) / 1267650600228229401496703205376 := by
  obtain ⟨bs, av, ar, br, h1, h2, h3, h4, h5, h6⟩ := H
  have t0 := tiny_pos
  have hr := twoSum_exact ra rb a0 b0 (by grind) h1 h2
  exact twoSum_core h1 h2 (h3.exact hr) h4 h5 h6 (by rw [ab_le]; grind) (by rw [ab_le]; grind) hbig

/-- quickTwoSum is exact where the second is far below the first. -/
theorem quick_exact {x y h l : Rat} (H : QuickR x y h l) (rx : Rep x) (ry : Rep y) (x0 : 0 < x) (hy : ab y ≤ x / 1099511627776) : h + l = x + y := by
  obtain ⟨z, h1', h2, h3⟩ := H
  have h1 := h1'.fl
  have t0 := tiny_pos
  obtain ⟨k, hk, kr, hx1, hx2⟩ : ∃ k : Int, -1074 ≤ k ∧ x < 9007199254740992 * p2 k ∧ (∃ zx : Int, x = (zx : Rat) * p2 k) ∧ (k = -1074 ∨ 4503599627370496 * p2 k ≤ x) := by
    by_cases hx : tiny ≤ x
    · obtain ⟨k, hk, k1, k2⟩ := unit_of hx
      exact ⟨k, hk, k2, rx.mult (by rw [ab_pos (Rat.le_of_lt x0)]; exact k1), .inr k1⟩
    · have e : tiny = 4503599627370496 * p2 (-1074) := by unfold tiny; rw [← p2_52, show (52 : Int) + -1074 = -1022 from by decide]
      have hp := p2_pos (-1074)
      obtain ⟨m, j, hj, _, _, ex⟩ := rx
      obtain ⟨n, _, en⟩ := p2_up hj
      exact ⟨-1074, by decide, by grind, ⟨m * 2 ^ n, by rw [ex, en, Rat.intCast_mul]; grind⟩, .inl rfl⟩
  obtain ⟨zx, hzx⟩ := hx1
  have hu := p2_pos k
  rw [ab_le] at hy
  -- the sum's unit is at least half of x's
  obtain ⟨q, hq, qk, hzh⟩ : ∃ q : Int, -1074 ≤ q ∧ q ≤ k ∧ (∃ zh : Int, h = (zh : Rat) * p2 q) ∧ p2 k ≤ 2 * p2 q := by
    by_cases hk1 : k = -1074
    · obtain ⟨m, j, hj, _, _, ex⟩ := h1.1
      obtain ⟨n, _, en⟩ := p2_up (show k ≤ j by omega)
      exact ⟨k, hk, Int.le_refl _, ⟨m * 2 ^ n, by rw [ex, en, Rat.intCast_mul]; grind⟩, by grind⟩
    · have e2 : p2 k = 2 * p2 (k - 1) := by rw [← p2_succ, show k - 1 + 1 = k from by omega]
      have hx3 : 4503599627370496 * p2 k ≤ x := by rcases hx2 with h | h; exact absurd h hk1; exact h
      exact ⟨k - 1, by omega, by omega, h1.mult (by omega) (by rw [ab_pos (by grind)]; grind), by grind⟩
  obtain ⟨hzh, hqk⟩ := hzh
  obtain ⟨zh, hzh⟩ := hzh
  obtain ⟨n, hn, en⟩ := p2_up qk
  have huq := p2_pos q
  have r1 := h1.half (k := k + 1) (by omega) (by rw [p2_succ, ab_pos (by grind)]; grind)
  rw [p2_succ, ab_le] at r1
  -- z is exact
  have hz : z = h - x := by
    refine h2.exact (rep_int (z := zh - zx * 2 ^ n) hq ?_ ?_)
    · rw [hzh, hzx, en, Rat.intCast_sub, Rat.intCast_mul]; grind
    · rw [ab_le]; grind
  subst hz
  -- l is exact
  have hl : l = y - (h - x) := by
    refine h3.exact ?_
    obtain ⟨m, j, hj, m1, m2, ey⟩ := ry
    have hnear := h1.2 x rx
    rw [show x - (x + y) = -y from by grind, ab_neg] at hnear
    by_cases hjq : q ≤ j
    · obtain ⟨n', _, en'⟩ := p2_up hjq
      refine rep_int (z := m * 2 ^ n' - (zh - zx * 2 ^ n)) hq ?_ ?_
      · rw [ey, hzh, hzx, en, en', Rat.intCast_sub, Rat.intCast_sub, Rat.intCast_mul, Rat.intCast_mul]; grind
      · rw [ab_le]; grind
    · obtain ⟨n', _, en'⟩ := p2_up (show j ≤ q by omega)
      have huj := p2_pos j
      refine rep_int (z := m - (zh - zx * 2 ^ n) * 2 ^ n') hj ?_ ?_
      · rw [ey, hzh, hzx, en, en', Rat.intCast_sub, Rat.intCast_mul, Rat.intCast_sub, Rat.intCast_mul]; grind
      · have c1 : ((9007199254740992 : Int) : Rat) = 9007199254740992 := rfl
        have c2 : ((-9007199254740992 : Int) : Rat) = -9007199254740992 := rfl
        have m1' : ((-9007199254740992 : Int) : Rat) ≤ (m : Rat) := Rat.intCast_le_intCast.2 m1
        have m2' : (m : Rat) ≤ ((9007199254740992 : Int) : Rat) := Rat.intCast_le_intCast.2 m2
        rw [c2] at m1'
        rw [c1] at m2'
        have a1 := Rat.mul_le_mul_of_nonneg_right m1' (Rat.le_of_lt huj)
        have a2 := Rat.mul_le_mul_of_nonneg_right m2' (Rat.le_of_lt huj)
        rw [← ey] at a1 a2
        have hyb : ab y ≤ 9007199254740992 * p2 j := by rw [ab_le]; grind
        have e : ab (y - (h - x)) = ab (h - (x + y)) := by rw [← ab_neg, show -(y - (h - x)) = h - (x + y) from by grind]
        rw [e]
        grind
  rw [hl]; grind

end Go.Proofs.Qxb6604785a
