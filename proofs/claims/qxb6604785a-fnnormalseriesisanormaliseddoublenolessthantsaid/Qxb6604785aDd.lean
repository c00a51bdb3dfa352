/-
  The double's operations over the rationals: what each gives, to within 2^-70 or better.
-/
import Derived.Test.Qxb6604785aSums
namespace Go.Proofs.Qxb6604785a

/-- A quotient as the model makes it: the rounding of a number within 2^-53 of it. -/
def DivR (x y q : Rat) : Prop := ∃ S, Fl S q ∧ ab (S * y - x) ≤ ab x / 9007199254740992

/-- add: the two last numbers before the last step, and the result. -/
def AddR (ah al bh bl x y h l : Rat) : Prop :=
  ∃ s sl t tl v1 s2l, TwoSumR ah bh s sl ∧ TwoSumR al bl t tl ∧ Fl (sl + t) v1 ∧ QuickR s v1 x s2l ∧ Fl (s2l + tl) y ∧ QuickR x y h l

def MulR (ah al bh bl h l : Rat) : Prop :=
  ∃ p e q1 q2 q3 q, TwoProdR ah bh p e ∧ Fl (ah * bl) q1 ∧ Fl (e + q1) q2 ∧ Fl (al * bh) q3 ∧ Fl (q2 + q3) q ∧ QuickR p q h l

def MulFR (ah al b h l : Rat) : Prop :=
  ∃ p e q1 q, TwoProdR ah b p e ∧ Fl (al * b) q1 ∧ Fl (e + q1) q ∧ QuickR p q h l

def QuoR (ah al bh bl h l : Rat) : Prop :=
  ∃ q mh ml x y rh rl d, DivR ah bh q ∧ MulFR bh bl (-q) mh ml ∧ AddR ah al mh ml x y rh rl ∧ DivR rh bh d ∧ QuickR q d h l

theorem Rn.rep {X r : Rat} (h : Rn X r) : Rep r := h.fl.1
theorem QuickR.rep {a b s l : Rat} (h : QuickR a b s l) : Rep s ∧ Rep l := by obtain ⟨z, h1, _, h3⟩ := h; exact ⟨h1.rep, h3.1⟩
theorem TwoSumR.rep {a b s l : Rat} (h : TwoSumR a b s l) : Rep s ∧ Rep l := by obtain ⟨_, _, _, _, h1, _, _, _, _, h6⟩ := h; exact ⟨h1.1, h6.1⟩
theorem TwoProdR.rep {a b p e : Rat} (h : TwoProdR a b p e) : Rep p ∧ Rep e := by
  obtain ⟨_, _, _, _, _, _, _, _, _, _, _, hp, _, _, _, _, _, _, _, _, _, he⟩ := h; exact ⟨hp.1, he.1⟩

/-- The sum of two positive doubles. -/
theorem add_pos {ah al bh bl x y h l : Rat} (H : AddR ah al bh bl x y h l) (ra : Rep ah) (rb : Rep bh) (a0 : 0 < ah) (b0 : 0 < bh) (hal : ab al ≤ ah / 1125899906842624) (hbl : ab bl ≤ bh / 1125899906842624)
    (hbig : 1645504557321206042154969182557350504982735865633579863348609024 * tiny ≤ ah + bh) :
    h + l = x + y ∧ Rn (x + y) h ∧ ab (h + l - (ah + al + bh + bl)) ≤ (ah + bh) / 39614081257132168796771975168 ∧ ab l ≤ h / 1125899906842624 ∧ (ah + bh) / 2 ≤ h ∧ h ≤ 2 * (ah + bh) := by
  obtain ⟨s, sl, t, tl, v1, s2l, h1, h2, h3, h4, h5, h6⟩ := H
  have t0 := tiny_pos
  obtain ⟨S, hS⟩ : ∃ S, S = ah + bh := ⟨_, rfl⟩
  obtain ⟨p1, p2, p3⟩ := twoSum_pos h1 ra rb a0 b0 (by grind)
  rw [← hS] at p1 p2 p3 hbig
  obtain ⟨q1, q2⟩ := twoSum_rough h2 (B := S / 1125899906842624) (by grind) (by grind) (by grind)
  rw [ab_le] at p1 p2 p3 q1 q2 hal hbl
  have r1 := h3.err' (A := S / 281474976710656) (by rw [ab_le]; grind) (by grind)
  rw [ab_le] at r1
  obtain ⟨u1, u2, u3⟩ := quick_err h4 (S := 2 * S) (B := S / 140737488355328) (by rw [ab_le]; grind) (by rw [ab_le]; grind) (by grind) (by grind) (by grind)
  rw [ab_le] at u1 u2 u3
  have r2 := h5.err' (A := S / 562949953421312) (by rw [ab_le]; grind) (by grind)
  rw [ab_le] at r2
  have ex := quick_exact h6 h4.rep.1 h5.1 (by grind) (by rw [ab_le]; grind)
  obtain ⟨z, n1, _, _⟩ := h6
  have e1 := n1.fl.err' (A := 2 * S) (by rw [ab_le]; grind) (by grind)
  rw [ab_le] at e1
  rw [← hS]
  refine ⟨ex, n1, by rw [ab_le]; grind, by rw [ab_le]; grind, by grind, by grind⟩

/-- The product of two positive doubles. -/
theorem mul_err {ah al bh bl h l S : Rat} (H : MulR ah al bh bl h l) (ra : Rep ah) (rb : Rep bh) (a0 : tiny ≤ ah) (b0 : tiny ≤ bh) (hal : ab al ≤ ah / 1125899906842624) (hbl : ab bl ≤ bh / 1125899906842624) (hS : S = ah * bh)
    (hbig : 1645504557321206042154969182557350504982735865633579863348609024 * tiny ≤ S) :
    ab (h + l - (ah + al) * (bh + bl)) ≤ S / 4722366482869645213696 ∧ ab l ≤ h / 1125899906842624 ∧ S / 2 ≤ h ∧ h ≤ 2 * S := by
  obtain ⟨p, e, q1, q2, q3, q, h1, h2, h3, h4, h5, h6⟩ := H
  have t0 := tiny_pos
  have eS : S = ab ah * ab bh := by rw [ab_pos (by grind), ab_pos (by grind)]; exact hS
  obtain ⟨p1, p2, p3⟩ := twoProd_err ra rb h1 eS (by rw [ab_pos (by grind)]; exact a0) (by rw [ab_pos (by grind)]; exact b0) (by grind)
  have m1 := ab_mul_le (x := ah) (E := ah) (by rw [ab_le]; grind) hbl
  have m2 := ab_mul_le (y := bh) (F := bh) hal (by rw [ab_le]; grind)
  have m3 := ab_mul_le hal hbl
  have m1' : ab (ah * bl) ≤ S / 1125899906842624 := by grind
  have m2' : ab (al * bh) ≤ S / 1125899906842624 := by grind
  have m3' : ab (al * bl) ≤ S / 1267650600228229401496703205376 := by grind
  have eP : (ah + al) * (bh + bl) = ah * bh + ah * bl + al * bh + al * bl := by grind
  rw [eP]
  rw [ab_le] at p1 p2 p3 m3'
  have r1 := h2.err' m1' (by grind)
  have r3 := h4.err' m2' (by grind)
  rw [ab_le] at r1 r3 m1' m2'
  clear m1 m2 m3 eP eS
  rw [← hS] at p1 p3 ⊢
  generalize ah * bl = P2 at *
  generalize al * bh = P3 at *
  generalize al * bl = P4 at *
  have r2 := h3.err' (A := S / 500000000000000) (by rw [ab_le]; grind) (by grind)
  rw [ab_le] at r2
  have r4 := h5.err' (A := S / 281474976710656) (by rw [ab_le]; grind) (by grind)
  rw [ab_le] at r4
  obtain ⟨u1, u2, u3⟩ := quick_err h6 (S := 2 * S) (B := S / 140737488355328) (by rw [ab_le]; grind) (by rw [ab_le]; grind) (by grind) (by grind) (by grind)
  rw [ab_le] at u1 u2 u3
  refine ⟨by rw [ab_le]; grind, by rw [ab_le]; grind, by grind, by grind⟩

end Go.Proofs.Qxb6604785a
