/-
  The quotient of a positive double by a small whole number, over the rationals.
-/
import Derived.Test.Qxb6604785aDd
namespace Go.Proofs.Qxb6604785a

/-- Both sides of a bound times a positive number. -/
theorem ab_times {x E m : Rat} (h : ab x ≤ E) (hm : 0 ≤ m) : ab (x * m) ≤ E * m := by
  rw [ab_le] at h ⊢
  have h1 := Rat.mul_le_mul_of_nonneg_right h.1 hm
  have h2 := Rat.mul_le_mul_of_nonneg_right h.2 hm
  grind

theorem add_cancel {ah mh s sl : Rat} (H : TwoSumR ah mh s sl) (ra : Rep ah) (rm : Rep mh) (h1 : ah ≤ -2 * mh) (h2 : -mh ≤ 2 * ah) : s = ah + mh ∧ sl = 0 := by
  obtain ⟨bs, av, ar, br, f1, f2, f3, f4, f5, f6⟩ := H
  have hr : Rep (ah + mh) := by
    have := sterbenz ra rm.neg (by grind) (by grind)
    rw [show ah - -mh = ah + mh from by grind] at this
    exact this
  have e1 := f1.exact hr
  subst e1
  have e2 := f2.exact (by rw [show ah + mh - ah = mh from by grind]; exact rm)
  have e2' : bs = mh := by grind
  subst e2'
  have e3 := f3.exact (by rw [show ah + bs - bs = ah from by grind]; exact ra)
  have e3' : av = ah := by grind
  subst e3'
  have e4 := f4.exact (by rw [show av - av = 0 from by grind]; exact rep_zero)
  have e5 := f5.exact (by rw [show bs - bs = 0 from by grind]; exact rep_zero)
  have e4' : ar = 0 := by grind
  have e5' : br = 0 := by grind
  subst e4' e5'
  have e6 := f6.exact (by rw [show (0 : Rat) + 0 = 0 from by grind]; exact rep_zero)
  exact ⟨rfl, by grind⟩

theorem quo_err {ah al m h l : Rat} (H : QuoR ah al m 0 h l) (ra : Rep ah) (rm : Rep m) (m1 : 1 ≤ m) (m2 : m ≤ 4096) (hal : ab al ≤ ah / 1125899906842624)
    (hbig : 1645504557321206042154969182557350504982735865633579863348609024 * tiny ≤ ah) :
    ab ((h + l) * m - (ah + al)) ≤ ah / 1180591620717411303424 ∧ ab l ≤ h / 1125899906842624 ∧ 0 < h ∧ ah ≤ 2 * (h * m) ∧ h * m ≤ 2 * ah := by
  obtain ⟨q, mh, ml, x, y, rh, rl, d, D1, MF, AD, D2, QK⟩ := H
  have t0 := tiny_pos
  have t1 : tiny ≤ 1 := by
    have := p2_mono (show (-1022 : Int) ≤ 0 by decide)
    rw [p2_zero] at this
    exact this
  have m0 : (0 : Rat) ≤ m := by grind
  have mp : (0 : Rat) < m := by grind
  -- q
  obtain ⟨Q, fq, dq⟩ := D1
  rw [ab_pos (show (0 : Rat) ≤ ah by grind), ab_le] at dq
  have Q0 : 0 < Q := by
    by_cases hh : 0 < Q
    · exact hh
    · exfalso
      have := Rat.mul_le_mul_of_nonneg_right (show Q ≤ 0 by grind) m0
      grind
  have Qm : Q * m ≤ Q * 4096 := Rat.mul_le_mul_of_nonneg_left m2 (Rat.le_of_lt Q0)
  have rq := fq.err' (A := Q) (by rw [ab_pos (Rat.le_of_lt Q0)]; grind) (by grind)
  have rqm := ab_times rq m0
  rw [ab_le] at rq rqm
  have q0 : 0 < q := by grind
  have qm1 : ab (q * m - ah) ≤ ah / 2251799813685248 := by rw [ab_le]; grind
  rw [ab_le] at qm1
  -- m times q
  obtain ⟨p, e, z1, v, TP, f1, f2, QK1⟩ := MF
  have ez : z1 = 0 := by
    have := f1.exact (by rw [show (0 : Rat) * -q = 0 from by grind]; exact rep_zero)
    grind
  subst ez
  have ev : v = e := by
    have := f2.exact (by rw [show e + 0 = e from by grind]; exact TP.rep.2)
    grind
  subst ev
  have eT : q * m = ab m * ab (-q) := by rw [ab_pos m0, ab_neg, ab_pos (Rat.le_of_lt q0)]; grind
  obtain ⟨P1, P2, P3⟩ := twoProd_err rm fq.1.neg TP eT (by rw [ab_pos m0]; grind) (by rw [ab_neg, ab_pos (Rat.le_of_lt q0)]; grind) (by grind)
  rw [ab_le] at P1 P2 P3
  have emq : m * -q = -(q * m) := by grind
  rw [emq] at P1 P3
  obtain ⟨U1, U2, U3⟩ := quick_err QK1 (S := 2 * ah) (B := ah / 1125899906842624) (by rw [ab_le]; grind) (by rw [ab_le]; grind) (by grind) (by grind) (by grind)
  rw [ab_le] at U1 U2 U3
  -- the rest
  obtain ⟨s, sl, t, tl, v1, s2l, A1, A2, A3, A4, A5, A6⟩ := AD
  obtain ⟨es, esl⟩ := add_cancel A1 ra QK1.rep.1 (by grind) (by grind)
  subst es esl
  rw [ab_le] at hal
  obtain ⟨R1, R2⟩ := twoSum_rough A2 (B := ah / 562949953421312) (by rw [ab_le]; grind) (by rw [ab_le]; grind) (by grind)
  rw [ab_le] at R1 R2
  have ev1 : v1 = t := by
    have := A3.exact (by rw [show (0 : Rat) + t = t from by grind]; exact A2.rep.1)
    grind
  subst ev1
  obtain ⟨V1, V2, V3⟩ := quick_err A4 (S := ah / 140737488355328) (B := ah / 140737488355328) (by rw [ab_le]; grind) (by rw [ab_le]; grind) (by grind) (by grind) (by grind)
  rw [ab_le] at V1 V2 V3
  have r5 := A5.err' (A := ah / 39614081257132168796771975168) (by rw [ab_le]; grind) (by grind)
  rw [ab_le] at r5
  obtain ⟨W1, W2, W3⟩ := quick_err A6 (S := ah / 35184372088832) (B := ah / 35184372088832) (by rw [ab_le]; grind) (by rw [ab_le]; grind) (by grind) (by grind) (by grind)
  rw [ab_le] at W1 W2 W3
  have hrh : ab (rh - (ah + al - q * m)) ≤ ah / 4722366482869645213696 := by rw [ab_le]; grind
  have hrs : ab rh ≤ ah / 17592186044416 := by rw [ab_le]; grind
  -- d
  obtain ⟨E, fd, dd⟩ := D2
  have dE : ab (E * m - rh) ≤ ah / 17592186044416 := by grind
  have hE : ab E ≤ Q / 2199023255552 := by
    refine Rat.le_of_mul_le_mul_right (c := m) ?_ mp
    have e1 : ab E * m = ab (E * m) := by rw [ab_mul, ab_pos m0]
    rw [e1]
    rw [ab_le] at dE hrs ⊢
    grind
  have rd := fd.err' hE (by grind)
  have rdm := ab_times rd m0
  rw [ab_le] at rd rdm hE hrh hrs
  have dd' : ab (E * m - rh) ≤ ah / 79228162514264337593543950336 := by
    have : ab rh ≤ ah / 17592186044416 := by rw [ab_le]; grind
    grind
  rw [ab_le] at dd'
  -- the result
  obtain ⟨X1, X2, X3⟩ := quick_err QK (S := 2 * Q) (B := Q / 1099511627776) (by rw [ab_le]; grind) (by rw [ab_le]; grind) (by grind) (by grind) (by grind)
  have X3m := ab_times X3 m0
  have X1m := ab_times X1 m0
  rw [ab_le] at X1 X2 X3 X3m X1m
  refine ⟨by rw [ab_le]; grind, by rw [ab_le]; grind, by grind, by grind, by grind⟩

end Go.Proofs.Qxb6604785a
