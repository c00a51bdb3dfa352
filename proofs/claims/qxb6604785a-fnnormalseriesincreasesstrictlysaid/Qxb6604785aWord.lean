/-
  Words and what they stand for: each operation of the model's doubles rounds the exact result to nearest.
-/
import Derived.Test.Qxb6604785aRn
import Derived.Laws.FloatArith
namespace Go.Proofs.Qxb6604785a
open Ieee

/-- r is THE rounding of X: within half a unit, a tie to the even side. -/
def Rn (X r : Rat) : Prop :=
  ∃ K k : Int, -1074 ≤ k ∧ ab X < 9007199254740992 * p2 k ∧ (k = -1074 ∨ 4503599627370496 * p2 k ≤ ab X) ∧ r = (K : Rat) * p2 k ∧ ab (r - X) ≤ p2 k / 2 ∧ (ab (r - X) = p2 k / 2 → K % 2 = 0)

theorem Rn.neg {X r : Rat} (h : Rn X r) : Rn (-X) (-r) := by
  obtain ⟨K, k, h1, h2, h3, h4, h5, h6⟩ := h
  have e : ab (-r - -X) = ab (r - X) := by rw [← ab_neg]; congr 1; grind
  refine ⟨-K, k, h1, by rw [ab_neg]; exact h2, by rw [ab_neg]; exact h3, by rw [h4, Rat.intCast_neg]; grind, by rw [e]; exact h5, fun h => ?_⟩
  rw [e] at h
  have := h6 h
  omega

theorem int_near {K z : Int} {Y : Rat} (h : ab ((K : Rat) - Y) ≤ 1 / 2) : ab ((K : Rat) - Y) ≤ ab ((z : Rat) - Y) := by
  by_cases e : z = K
  · subst e; grind
  · rw [ab_le] at h
    rcases Int.lt_or_gt_of_ne e with h1 | h1
    · have : (((z + 1 : Int)) : Rat) ≤ (K : Rat) := Rat.intCast_le_intCast.2 (by omega)
      rw [Rat.intCast_add] at this
      have c : ((1 : Int) : Rat) = 1 := rfl
      rw [c] at this
      unfold ab; grind
    · have : (((K + 1 : Int)) : Rat) ≤ (z : Rat) := Rat.intCast_le_intCast.2 (by omega)
      rw [Rat.intCast_add] at this
      have c : ((1 : Int) : Rat) = 1 := rfl
      rw [c] at this
      unfold ab; grind

theorem ab_mul_pos {x c : Rat} (hc : 0 < c) : ab (x * c) = ab x * c := by
  unfold ab
  by_cases h : 0 ≤ x
  · have := Rat.mul_nonneg h (Rat.le_of_lt hc)
    rw [if_pos h, if_pos this]
  · have h' : 0 < -x := by grind
    have := Rat.mul_pos h' hc
    rw [if_neg h, if_neg (by grind)]
    grind

theorem Rn.fl_pos {X r : Rat} (h : Rn X r) (hX : 0 ≤ X) : Fl X r := by
  obtain ⟨K, k, h1, h2, h3, h4, h5, _⟩ := h
  have hp := p2_pos k
  have hne : p2 k ≠ 0 := by grind
  rw [ab_pos hX] at h2 h3
  have hq : X / p2 k * p2 k = X := Rat.div_mul_cancel hne
  generalize X / p2 k = Y at hq
  have hz : ∀ z : Int, ab ((z : Rat) * p2 k - X) = ab ((z : Rat) - Y) * p2 k := by
    intro z
    rw [← ab_mul_pos hp]; congr 1; rw [← hq]; grind
  have hK : ab ((K : Rat) - Y) ≤ 1 / 2 := by
    rw [h4, hz] at h5
    exact Rat.le_of_mul_le_mul_right (c := p2 k) (by grind) hp
  have near : ∀ z : Int, ab (r - X) ≤ ab ((z : Rat) * p2 k - X) := by
    intro z
    rw [h4, hz, hz]
    exact Rat.mul_le_mul_of_nonneg_right (int_near hK) (Rat.le_of_lt hp)
  have hrep : Rep r := by
    refine rep_int h1 h4 ?_
    have y1 : Y < 9007199254740992 := by exact Rat.lt_of_mul_lt_mul_right (c := p2 k) (by grind) (Rat.le_of_lt hp)
    have y2 : 0 ≤ Y := by exact Rat.le_of_mul_le_mul_right (c := p2 k) (by grind) hp
    rw [ab_le] at hK
    have c1 : ((9007199254740993 : Int) : Rat) = 9007199254740993 := rfl
    have c2 : ((-1 : Int) : Rat) = -1 := rfl
    have k1 : K < 9007199254740993 := Rat.intCast_lt_intCast.1 (by rw [c1]; grind)
    have k2 : -1 < K := Rat.intCast_lt_intCast.1 (by rw [c2]; grind)
    have k1' : (K : Rat) ≤ ((9007199254740992 : Int) : Rat) := Rat.intCast_le_intCast.2 (by omega)
    have k2' : ((0 : Int) : Rat) ≤ (K : Rat) := Rat.intCast_le_intCast.2 (by omega)
    have c3 : ((9007199254740992 : Int) : Rat) = 9007199254740992 := rfl
    have c4 : ((0 : Int) : Rat) = 0 := rfl
    rw [c3] at k1'
    rw [c4] at k2'
    have a1 := Rat.mul_le_mul_of_nonneg_right k1' (Rat.le_of_lt hp)
    have a2 := Rat.mul_nonneg k2' (Rat.le_of_lt hp)
    rw [h4, ab_pos a2]
    exact a1
  refine ⟨hrep, fun y hy => ?_⟩
  by_cases hm : ∃ z : Int, y = (z : Rat) * p2 k
  · obtain ⟨z, rfl⟩ := hm
    exact near z
  · rcases h3 with h3 | h3
    · exfalso
      obtain ⟨m, j, hj, _, _, rfl⟩ := hy
      obtain ⟨n, _, e⟩ := p2_up (show k ≤ j by omega)
      exact hm ⟨m * 2 ^ n, by rw [e, Rat.intCast_mul]; grind⟩
    · have hlt : ab y < 4503599627370496 * p2 k := by
        by_cases hh : 4503599627370496 * p2 k ≤ ab y
        · exact absurd (hy.mult hh) hm
        · grind
      have n0 := near 4503599627370496
      have c : ((4503599627370496 : Int) : Rat) = 4503599627370496 := rfl
      rw [c] at n0
      have := ab_le_self y
      unfold ab at *
      grind

theorem Rn.fl {X r : Rat} (h : Rn X r) : Fl X r := by
  by_cases hX : 0 ≤ X
  · exact h.fl_pos hX
  · have := (h.neg.fl_pos (by grind)).neg
    have e1 : - -X = X := by grind
    have e2 : - -r = r := by grind
    rw [e1, e2] at this
    exact this

theorem Rn.unique {X r r' : Rat} (h : Rn X r) (h' : Rn X r') : r = r' := by
  obtain ⟨K, k, h1, h2, h3, h4, h5, h6⟩ := h
  obtain ⟨K', k', h1', h2', h3', h4', h5', h6'⟩ := h'
  have hp := p2_pos k
  have hkk : k = k' := by
    rcases Int.lt_trichotomy k k' with hh | hh | hh
    · exfalso
      have := p2_mono (show k + 1 ≤ k' by omega)
      rw [p2_succ] at this
      rcases h3' with e | e
      · omega
      · grind
    · exact hh
    · exfalso
      have := p2_mono (show k' + 1 ≤ k by omega)
      rw [p2_succ] at this
      rcases h3 with e | e
      · omega
      · grind
  subst hkk
  have hd : ab (((K - K' : Int) : Rat) * p2 k) ≤ 1 * p2 k := by
    have e : ((K - K' : Int) : Rat) * p2 k = r - r' := by rw [h4, h4', Rat.intCast_sub]; grind
    rw [e]
    rw [ab_le] at h5 h5' ⊢
    grind
  rw [ab_mul_pos hp] at hd
  have hd' := Rat.le_of_mul_le_mul_right hd hp
  rw [ab_le] at hd'
  have c1 : ((1 : Int) : Rat) = 1 := rfl
  have c2 : ((-1 : Int) : Rat) = -1 := rfl
  have d1 : K - K' ≤ 1 := Rat.intCast_le_intCast.1 (by rw [c1]; exact hd'.2)
  have d2 : -1 ≤ K - K' := Rat.intCast_le_intCast.1 (by rw [c2]; exact hd'.1)
  have hK : K = K' := by
    rcases Int.lt_trichotomy K K' with hh | hh | hh
    · exfalso
      obtain rfl : K' = K + 1 := by omega
      rw [Rat.intCast_add, c1] at h4'
      have t1 : ab (r - X) = p2 k / 2 := by rw [ab_le] at h5 h5'; unfold ab at *; grind
      have t2 : ab (r' - X) = p2 k / 2 := by rw [ab_le] at h5 h5'; unfold ab at *; grind
      have := h6 t1
      have := h6' t2
      omega
    · exact hh
    · exfalso
      obtain rfl : K = K' + 1 := by omega
      rw [Rat.intCast_add, c1] at h4
      have t1 : ab (r - X) = p2 k / 2 := by rw [ab_le] at h5 h5'; unfold ab at *; grind
      have t2 : ab (r' - X) = p2 k / 2 := by rw [ab_le] at h5 h5'; unfold ab at *; grind
      have := h6 t1
      have := h6' t2
      omega
  rw [h4, h4', hK]

end Go.Proofs.Qxb6604785a
