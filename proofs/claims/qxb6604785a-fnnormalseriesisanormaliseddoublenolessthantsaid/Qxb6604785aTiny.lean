/-
  The loop of normalSeries on words at a tiny t: one round, and the first half is t itself.
-/
import Derived.Test.Qxb6604785aLoop
namespace Go.Proofs.Qxb6604785a

theorem tiny_small : tiny ≤ 1 / 4149515568880992958512407863691161151012446232242436899995657329690652811412908146399707048947103794288197886611300789182395151075411775307886874834113963687061181803401509523685376 := by
  have e : p2 600 = 4149515568880992958512407863691161151012446232242436899995657329690652811412908146399707048947103794288197886611300789182395151075411775307886874834113963687061181803401509523685376 := by have := p2_nat 600; rw [show ((600 : Nat) : Int) = 600 from rfl] at this; rw [this]; decide +kernel
  have h1 : p2 (-600) * p2 600 = 1 := by rw [← p2_add]; exact p2_zero
  have h2 : tiny ≤ p2 (-600) := p2_mono (by decide)
  rw [e] at h1
  grind

theorem tiny_unit : p2 (-1074) = tiny / 4503599627370496 := by
  have := p2_52 (-1074)
  rw [show (52 : Int) + -1074 = -1022 from by decide] at this
  have e : tiny = p2 (-1022) := rfl
  rw [e]
  grind

/-- A sum that does not leave its first summand. -/
theorem near_self {t x s : Rat} (h : Fl (t + x) s) (rt : Rep t) (t0 : 0 < t) (hx : ab x ≤ t / 1152921504606846976) : s = t := by
  have hn := h.2 t rt
  rw [show t - (t + x) = -x from by grind, ab_neg] at hn
  have ht := tiny_pos
  rw [ab_le] at hx
  have hs : ab (s - (t + x)) ≤ t / 1152921504606846976 := by rw [ab_le] at hn ⊢; unfold ab at hn; grind
  rw [ab_le] at hs
  by_cases hb : tiny ≤ s ∧ tiny ≤ t
  · by_cases h1 : s < t
    · have := rep_gap h.1 rt hb.1 h1
      grind
    · by_cases h2 : t < s
      · have := rep_gap rt h.1 hb.2 h2
        grind
      · grind
  · -- both are whole numbers of the least unit, less than one apart
    have hu := tiny_unit
    have hr : Rep (s - t) := by
      obtain ⟨m, j, hj, m1, m2, es⟩ := h.1
      obtain ⟨m', j', hj', m1', m2', et⟩ := rt
      obtain ⟨n, _, en⟩ := p2_up hj
      obtain ⟨n', _, en'⟩ := p2_up hj'
      refine rep_int (z := m * 2 ^ n - m' * 2 ^ n') (k := -1074) (by decide) ?_ ?_
      · rw [es, et, en, en', Rat.intCast_sub, Rat.intCast_mul, Rat.intCast_mul]; grind
      · rw [ab_le]; grind
    have := hr.small (by rw [hu]; have : ab (s - t) ≤ t / 576460752303423488 := by rw [ab_le]; grind
                         grind)
    grind

theorem add_tiny {t x y X Y h l : Rat} (A : AddR t 0 x y X Y h l) (rt : Rep t) (rx : Rep x) (ry : Rep y) (t0 : 0 < t) (hx : ab x ≤ t / 1180591620717411303424) (hy : ab y ≤ t / 1180591620717411303424) : h = t ∧ Rn (h + l) h := by
  obtain ⟨s, sl, u, ul, v1, s2l, h1, h2, h3, h4, h5, h6⟩ := A
  -- the first sum
  have e1 : s = t ∧ sl = x := by
    obtain ⟨bs, av, ar, br, f1, f2, f3, f4, f5, f6⟩ := h1
    have es := near_self f1 rt t0 (by grind)
    subst es
    have eb := f2.exact (by rw [show s - s = 0 from by grind]; exact rep_zero)
    have eb' : bs = 0 := by grind
    subst eb'
    have ea := f3.exact (by rw [show s - 0 = s from by grind]; exact rt)
    have ea' : av = s := by grind
    subst ea'
    have er := f4.exact (by rw [show av - av = 0 from by grind]; exact rep_zero)
    have er' : ar = 0 := by grind
    subst er'
    have eq := f5.exact (by rw [show x - 0 = x from by grind]; exact rx)
    have eq' : br = x := by grind
    subst eq'
    have el := f6.exact (by rw [show 0 + br = br from by grind]; exact rx)
    exact ⟨rfl, by grind⟩
  obtain ⟨rfl, rfl⟩ := e1
  have e2 : u = y ∧ ul = 0 := by
    obtain ⟨bs, av, ar, br, f1, f2, f3, f4, f5, f6⟩ := h2
    have es := f1.exact (by rw [show 0 + y = y from by grind]; exact ry)
    have es' : u = y := by grind
    subst es'
    have eb := f2.exact (by rw [show u - 0 = u from by grind]; exact ry)
    have eb' : bs = u := by grind
    subst eb'
    have ea := f3.exact (by rw [show bs - bs = 0 from by grind]; exact rep_zero)
    have ea' : av = 0 := by grind
    subst ea'
    have er := f4.exact (by rw [show (0 : Rat) - 0 = 0 from by grind]; exact rep_zero)
    have er' : ar = 0 := by grind
    subst er'
    have eq := f5.exact (by rw [show bs - bs = 0 from by grind]; exact rep_zero)
    have eq' : br = 0 := by grind
    subst eq'
    have el := f6.exact (by rw [show (0 : Rat) + 0 = 0 from by grind]; exact rep_zero)
    exact ⟨rfl, by grind⟩
  obtain ⟨rfl, rfl⟩ := e2
  have hv : ab v1 ≤ s / 1152921504606846976 := by
    have := h3.dbl
    have h7 : ab (sl + u) ≤ s / 590295810358705651712 := by rw [ab_le] at hx hy ⊢; grind
    grind
  have quick : ∀ a b : Rat, QuickR s v1 a b → a = s ∧ b = v1 ∧ Rn (s + v1) s := by
    intro a b hq
    obtain ⟨z, f1, f2, f3⟩ := hq
    have es := near_self f1.fl rt t0 hv
    subst es
    have ez := f2.exact (by rw [show a - a = 0 from by grind]; exact rep_zero)
    have ez' : z = 0 := by grind
    subst ez'
    have el := f3.exact (by rw [show v1 - 0 = v1 from by grind]; exact h3.1)
    exact ⟨rfl, by grind, f1⟩
  obtain ⟨rfl, rfl, _⟩ := quick _ _ h4
  have ey := h5.exact (by rw [show s2l + 0 = s2l from by grind]; exact h3.1)
  have ey' : Y = s2l := by grind
  subst ey'
  obtain ⟨q1, q2, q3⟩ := quick _ _ h6
  rw [q1, q2]
  exact ⟨rfl, q3⟩

/-- What the loop ends with, t tiny. -/
def EndT (t : Rat) (sh sl : Nat) : Prop := fin sh ∧ fin sl ∧ Rn (val sh + val sl) (val sh) ∧ val sh = t

theorem loop_T {t : Nat} (ft : fin t) (t0 : 0 < val t) (ht : val t ≤ 1 / 1684996666696914987166688442938726917102321526408785780068975640576) : ∃ qh ql f, TwoProdW t t qh ql ∧ Goes qh ql (EndT (val t)) f t 0 t 0 w1 := by
  have ty := tiny_pos
  have ts := tiny_small
  obtain ⟨L1, L2⟩ := lim_huge
  obtain ⟨g1, g2⟩ := w1_fin
  obtain ⟨k1, k2⟩ := w2_fin
  obtain ⟨z1, z2⟩ := w0_fin
  obtain ⟨e1, e2⟩ := w80_fin
  obtain ⟨u, hu⟩ : ∃ u, u = val t := ⟨_, rfl⟩
  rw [← hu] at t0 ht
  obtain ⟨S, hS⟩ : ∃ S, S = u * u := ⟨_, rfl⟩
  have S0 : 0 ≤ S := by rw [hS]; exact Rat.mul_nonneg (Rat.le_of_lt t0) (Rat.le_of_lt t0)
  have Sb : S ≤ u / 1684996666696914987166688442938726917102321526408785780068975640576 := by
    have := Rat.mul_le_mul_of_nonneg_left ht (Rat.le_of_lt t0)
    rw [hS]; grind
  have Sb2 : S ≤ 1 / 2839213766779714416208296124562517712318911565184836172974571090549372219192960637992933791850638927971728600024477257552869537611776 := by grind
  have bt : ab (val t) ≤ u := by rw [← hu, ab_le]; grind
  obtain ⟨qh, ql, q1, q2, q3, q4, q5, q6⟩ := twoProd_ex ft ft bt bt hS (by grind) (by grind) (by grind)
  -- the round
  have b0 : ab (val 0) ≤ u := by rw [z2, ab_le]; grind
  obtain ⟨R, hR⟩ : ∃ R, R = u * S := ⟨_, rfl⟩
  have R0 : 0 ≤ R := by rw [hR]; exact Rat.mul_nonneg (Rat.le_of_lt t0) S0
  have Rb : R ≤ u / 2839213766779714416208296124562517712318911565184836172974571090549372219192960637992933791850638927971728600024477257552869537611776 := by
    have := Rat.mul_le_mul_of_nonneg_left Sb2 (Rat.le_of_lt t0)
    rw [hR]; grind
  obtain ⟨ph, pl, M1, M2, M3, M4, M5, M6⟩ := mulW_ex ft z1 q2 q3 (A := u) (B := 618970019642690137449562112 * S) (S := 618970019642690137449562112 * R) bt b0 (by grind) (by grind) (by rw [hR]; grind) (by grind) (by grind) (by grind)
  obtain ⟨d, d1, d2, d3, _⟩ := mul_ex k1 g1 (A := 2) (B := 1) (by rw [k2, ab_le]; grind) (by rw [g2, ab_le]; grind) (by grind)
  have dv : val d = 2 := by
    rw [k2, g2, show (2 : Rat) * 1 = 2 from by grind] at d3
    exact d3.fl.exact (rep_nat 2 (by decide))
  obtain ⟨m, m1, m2, m3, _⟩ := add_ex d2 g1 (A := 2) (B := 1) (by rw [dv, ab_le]; grind) (by rw [g2, ab_le]; grind) (by grind)
  have mv : val m = 3 := by
    rw [g2, dv, show (2 : Rat) + 1 = 3 from by grind] at m3
    exact m3.fl.exact (rep_nat 3 (by decide))
  obtain ⟨th', tl', Q1, Q2, Q3, Q4, Q5, Q6⟩ := quoW_ex M2 M3 m2 z1 (A := 158456325028528675187087900672 * (618970019642690137449562112 * R)) M5 M6 (by rw [mv]; grind) (by rw [mv]; grind) z2 (by grind) (by grind)
  obtain ⟨x, y, sh', sl', A1, A2, A3, A4, A5, A6, A7, A8⟩ := addW_ex ft z1 Q2 Q3 (A := u) bt b0 (by grind) (by grind) (by grind)
  obtain ⟨nw', n1, n2, n3, _⟩ := add_ex g1 g1 (A := 1) (B := 1) (by rw [g2, ab_le]; grind) (by rw [g2, ab_le]; grind) (by grind)
  rw [z2, ← hu] at A6
  have rt : Rep u := by rw [hu]; exact fin_rep ft
  obtain ⟨hh, hRn⟩ := add_tiny A6 rt (fin_rep Q2) (fin_rep Q3) t0 (by grind) (by grind)
  -- the two tests
  obtain ⟨c, c1, c2, c3, c4⟩ := mul_ex e1 ft (A := 1 / 1208925819614629174706176) (B := u) (by rw [e2, ab_le]; grind) bt (by grind)
  have o1 : (Ieee.double.order t c == some .gt) = true := by
    have hc : val c < val t := by
      rw [← hu]
      have := ab_le_self (val c)
      grind
    rw [order_spec ft c2, if_neg (by grind), if_neg (by grind)]
    decide
  obtain ⟨c', c1', c2', c3', c4'⟩ := mul_ex e1 A4 (A := 1 / 1208925819614629174706176) (B := u) (by rw [e2, ab_le]; grind) (by rw [hh, ab_le]; grind) (by grind)
  rw [e2, hh] at c3'
  have hle : val th' ≤ val c' := by
    by_cases hb : tiny ≤ u / 1208925819614629174706176
    · have r := c3'.fl.err' (A := u / 1208925819614629174706176) (by rw [ab_le]; grind) hb
      rw [ab_le] at r
      have := ab_le_self (val th')
      grind
    · have hu2 : u ≤ 1 / 3432398830065304857490950399540696608634717650071652704697231729592771591698828026061279820330727277488648155695740429018560993999858321906287014145557528576 := by grind
      have Sb3 : S ≤ u / 3432398830065304857490950399540696608634717650071652704697231729592771591698828026061279820330727277488648155695740429018560993999858321906287014145557528576 := by
        have := Rat.mul_le_mul_of_nonneg_left hu2 (Rat.le_of_lt t0)
        rw [hS]; grind
      have Rb3 : R ≤ u / 10715086071862673209484250490600018105614048117055336074437503883703510511249361224931983788156958581275946729175531468251871452856923140435984577574698574803934567774824230985421074605062371141877954182153046474983581941267398767559165543946077062914571196477686542167660429831652624386837205668069376 := by
        have h1 : S ≤ 1 / 10715086071862673209484250490600018105614048117055336074437503883703510511249361224931983788156958581275946729175531468251871452856923140435984577574698574803934567774824230985421074605062371141877954182153046474983581941267398767559165543946077062914571196477686542167660429831652624386837205668069376 := by grind
        have := Rat.mul_le_mul_of_nonneg_left h1 (Rat.le_of_lt t0)
        rw [hR]; grind
      have hz := (fin_rep Q2).small (by rw [tiny_unit]; grind)
      have hc0 := c3'.fl.ge rep_zero (by grind)
      rw [hz]; exact hc0
  have o2 : (Ieee.double.order th' c' == some .gt) = false := by
    rw [order_spec Q2 c2']
    by_cases h1 : val th' < val c'
    · rw [if_pos h1]; decide
    · rw [if_neg h1, if_pos (by grind)]; decide
  refine ⟨qh, ql, 1, q1, ⟨c, c1, o1⟩, th', tl', sh', sl', nw', ⟨ph, pl, d, m, x, y, M1, d1, m1, Q1, A1, n1⟩, ⟨c', c1', o2⟩, A4, A5, hRn, ?_⟩
  rw [hh, hu]

end Go.Proofs.Qxb6604785a
