/-
  normalSeries on words, for every t above 0 up to 30: it ends, normalised, no less than t; and its ends stand as their arguments do.
-/
import Derived.Test.Qxb6604785aTiny
namespace Go.Proofs.Qxb6604785a

theorem tiny_smaller : tiny ≤ 1 / 10715086071862673209484250490600018105614048117055336074437503883703510511249361224931983788156958581275946729175531468251871452856923140435984577574698574803934567774824230985421074605062371141877954182153046474983581941267398767559165543946077062914571196477686542167660429831652624386837205668069376 := by
  have e : p2 1000 = 10715086071862673209484250490600018105614048117055336074437503883703510511249361224931983788156958581275946729175531468251871452856923140435984577574698574803934567774824230985421074605062371141877954182153046474983581941267398767559165543946077062914571196477686542167660429831652624386837205668069376 := by have := p2_nat 1000; rw [show ((1000 : Nat) : Int) = 1000 from rfl] at this; rw [this]; decide +kernel
  have h1 : p2 (-1000) * p2 1000 = 1 := by rw [← p2_add]; exact p2_zero
  have h2 : tiny ≤ p2 (-1000) := p2_mono (by decide)
  rw [e] at h1
  grind

theorem Goes.mono {qh ql : Nat} {P Q : Nat → Nat → Prop} (h : ∀ a b, P a b → Q a b) : ∀ (f th tl sh sl n : Nat), Goes qh ql P f th tl sh sl n → Goes qh ql Q f th tl sh sl n := by
  intro f
  induction f with
  | zero => intro th tl sh sl n g; exact ⟨g.1, h _ _ g.2⟩
  | succ f ih =>
    intro th tl sh sl n g
    obtain ⟨g1, th', tl', sh', sl', n', g2, g3⟩ := g
    exact ⟨g1, th', tl', sh', sl', n', g2, ih _ _ _ _ _ g3⟩

def EndN (t : Rat) (sh sl : Nat) : Prop :=
  fin sh ∧ fin sl ∧ Rn (val sh + val sl) (val sh) ∧ t ≤ val sh ∧
    ((t ≤ 1 / 1684996666696914987166688442938726917102321526408785780068975640576 ∧ val sh = t) ∨ (1 / 1684996666696914987166688442938726917102321526408785780068975640576 ≤ t ∧ ∃ (K : Nat) (a b : Rat), K ≤ 1000 ∧ Keeps t K a b (val sh) (val sl) ∧ T t K ≤ F t K / 1180591620717411303424))

theorem no_less {t : Rat} {K : Nat} {a b sh sl : Rat} (rt : Rep t) (ht : 0 < t) (hbig : 1048576 * tiny ≤ t) (I : Keeps t K a b sh sl) (hK : K ≤ 1000) (hR : Rn (sh + sl) sh) : t ≤ sh := by
  have ty := tiny_pos
  have es := I.es
  have Fp := (T_le_F ht K).2
  have n1 : (K : Rat) ≤ 1000 := by
    have := Rat.natCast_le_natCast.2 hK
    have e : ((1000 : Nat) : Rat) = 1000 := rfl
    rw [e] at this
    exact this
  have b1 := Rat.mul_le_mul_of_nonneg_right (show 2 * ((K : Rat) / 295147905179352825856) ≤ 1 / 144115188075855872 by grind) (show 0 ≤ F t K by grind)
  rw [ab_le] at es
  have hX : t - t / 144115188075855872 ≤ sh + sl := by grind
  have hf := hR.fl
  by_cases h1 : t ≤ sh + sl
  · exact hf.ge rt h1
  · by_cases h2 : t ≤ sh
    · exact h2
    · exfalso
      have hn := hf.2 t rt
      have hn2 : ab (t - (sh + sl)) ≤ t / 144115188075855872 := by rw [ab_le]; grind
      have hn3 : ab (sh - (sh + sl)) ≤ t / 144115188075855872 := by grind
      rw [ab_le] at hn3
      have := rep_gap hf.1 rt (by grind) (by grind)
      grind

theorem series {t : Nat} (ft : fin t) (t0 : 0 < val t) (h30 : val t ≤ 30) : ∃ qh ql f, TwoProdW t t qh ql ∧ Goes qh ql (EndN (val t)) f t 0 t 0 w1 := by
  have ty := tiny_pos
  have ts := tiny_smaller
  by_cases hs : val t ≤ 1 / 1684996666696914987166688442938726917102321526408785780068975640576
  · obtain ⟨qh, ql, f, h1, h2⟩ := loop_T ft t0 hs
    refine ⟨qh, ql, f, h1, Goes.mono ?_ _ _ _ _ _ _ h2⟩
    rintro a b ⟨e1, e2, e3, e4⟩
    exact ⟨e1, e2, e3, by grind, .inl ⟨hs, e4⟩⟩
  · have hb : 1 / 1684996666696914987166688442938726917102321526408785780068975640576 ≤ val t := by grind
    obtain ⟨L1, L2⟩ := lim_huge
    have rt := fin_rep ft
    obtain ⟨u, hu⟩ : ∃ u, u = val t := ⟨_, rfl⟩
    rw [← hu] at t0 h30 hb rt
    have q1 : 1 / 2839213766779714416208296124562517712318911565184836172974571090549372219192960637992933791850638927971728600024477257552869537611776 ≤ u * u := by
      have := le_mul hb hb (by grind) (Rat.le_of_lt t0)
      grind
    have q2 : 1 / 4784065733063810973581885157618788676291241975216665977767007373648750357731006099232824032039924032894289638403441329240212719241920971274455782595989040464660523567661989180298099889009174801022976 ≤ u * u * u := by
      have := le_mul q1 hb (by grind) (Rat.le_of_lt t0)
      grind
    have q3 : u * u ≤ 900 := by
      have := le_mul h30 h30 (Rat.le_of_lt t0) (by decide)
      grind
    have bt : ab (val t) ≤ u := by rw [← hu, ab_le]; grind
    obtain ⟨qh, ql, p1, p2, p3, p4, p5, p6⟩ := twoProd_ex ft ft bt bt (S := u * u) rfl (by grind) (by grind) (by grind)
    rw [← hu] at p4
    have au : ab u = u := ab_pos (Rat.le_of_lt t0)
    obtain ⟨r1, r2, r3⟩ := twoProd_err rt rt p4 (S := u * u) (by rw [au]) (by rw [au]; grind) (by rw [au]; grind) (by grind)
    obtain ⟨g1, g2⟩ := w1_fin
    obtain ⟨z1, z2⟩ := w0_fin
    have e0 : ((0 : Nat) : Rat) = 0 := rfl
    have a0 : ab (0 : Rat) = 0 := by unfold ab; grind
    have init : Keeps u 0 (val t) (val 0) (val t) (val 0) := by
      rw [z2, ← hu]
      have eT : T u 0 = u := rfl
      have eF : F u 0 = u := rfl
      refine ⟨rt, rt, t0, t0, by rw [a0]; grind, by rw [a0]; grind, ?_, ?_⟩
      · rw [eT, e0, show u + 0 - u = 0 from by grind, a0]; grind
      · rw [eF, e0, show u + 0 - u = 0 from by grind, a0]; grind
    obtain ⟨f, hf⟩ := loop_B t0 h30 (by grind) (by grind) (by grind) p2 p3 (by rw [ab_le] at r1 r2 ⊢; grind) r3 985 0 t 0 t 0 w1 (by omega) ft z1 ft z1 g1 (by rw [g2, e0]; grind) init (.inl rfl) (fun _ => ⟨hu.symm, hu.symm⟩)
    refine ⟨qh, ql, f, p1, Goes.mono ?_ _ _ _ _ _ _ hf⟩
    rintro a b ⟨e1, e2, e3, K, x, y, e4, e5, e6⟩
    rw [← hu]
    exact ⟨e1, e2, e3, no_less rt t0 (by grind) e5 e4 e3, .inr ⟨hb, K, x, y, e4, e5, e6⟩⟩

/-- The ends stand as their arguments do: by the first half, then by the second. -/
theorem ends_less {s t : Rat} {h1 l1 h2 l2 : Nat} (rs : Rep s) (rt : Rep t) (hst : s < t) (e1 : EndN s h1 l1) (e2 : EndN t h2 l2) : val h1 < val h2 ∨ (val h1 = val h2 ∧ val l1 < val l2) := by
  have ty := tiny_pos
  have ts := tiny_smaller
  obtain ⟨_, _, n1, a1, c1⟩ := e1
  obtain ⟨_, _, n2, a2, c2⟩ := e2
  rcases c1 with ⟨c1, d1⟩ | ⟨c1, K1, x1, y1, k1, I1, _⟩
  · left; grind
  · rcases c2 with ⟨c2, d2⟩ | ⟨c2, K2, x2, y2, k2, I2, m2⟩
    · exfalso; grind
    · have hlt := sums_less rs rt (by grind) hst I1 I2 k1 k2 (by grind)
      have := n1.fl.mono n2.fl hlt
      by_cases he : val h1 = val h2
      · right; exact ⟨he, by grind⟩
      · left; grind

/-- The second half does not reach the first. -/
theorem end_normal {t : Rat} {h l : Nat} (e : EndN t h l) (hb : ab (val h + val l) ≤ huge) : ∃ r, floatBits .add .f64 h l = some r ∧ fin r ∧ val r = val h := by
  obtain ⟨f1, f2, n, _⟩ := e
  obtain ⟨r, r1, r2, r3⟩ := add_spec f1 f2 hb
  exact ⟨r, r1, r2, r3.unique n⟩

theorem self_sub {h : Nat} (f : fin h) : ∃ r, floatBits .sub .f64 h h = some r ∧ fin r ∧ val r = 0 := by
  have hp := p2_pos 1023
  obtain ⟨r, r1, r2, r3⟩ := sub_spec f f (by rw [show val h - val h = 0 from by grind, ab_le]; grind)
  refine ⟨r, r1, r2, ?_⟩
  rw [show val h - val h = 0 from by grind] at r3
  exact r3.fl.exact rep_zero

/-- The ends are not great. -/
theorem end_bound {t : Rat} {h l : Nat} (ht : 0 < t) (h30 : t ≤ 30) (e : EndN t h l) : ab (val h + val l) ≤ huge := by
  obtain ⟨L1, L2⟩ := lim_huge
  obtain ⟨f1, f2, n, a, c⟩ := e
  rcases c with ⟨c, d⟩ | ⟨c, K, x, y, k, I, _⟩
  · have hf := n.fl
    rw [d] at hf
    have hn := hf.2 0 rep_zero
    have hg := hf.dbl
    -- |t| ≤ 2 |t + l|, and the nearest to the sum is t
    by_cases hl : ab (val h + val l) ≤ huge
    · exact hl
    · exfalso
      have rl := fin_rep f2
      have hz := hf.ab_ge (M := p2 10) (rep_p2 10 (by decide)) (by rw [d] at hl; have : p2 10 ≤ huge := p2_mono (by decide); grind)
      have e10 : p2 10 = 1024 := by have := p2_nat 10; simpa using this
      rw [e10, ab_pos (Rat.le_of_lt ht)] at hz
      grind
  · have es := I.es
    have fup := F_upper ht h30 (n := K) k
    have Fp := (T_le_F ht K).2
    have n1 : (K : Rat) ≤ 1000 := by
      have := Rat.natCast_le_natCast.2 k
      have e : ((1000 : Nat) : Rat) = 1000 := rfl
      rw [e] at this
      exact this
    have b1 := Rat.mul_le_mul_of_nonneg_right (show 2 * ((K : Rat) / 295147905179352825856) ≤ 1 / 144115188075855872 by grind) (show 0 ≤ F t K by grind)
    have fup2 := Rat.mul_le_mul_of_nonneg_right (show (K : Rat) + 1 ≤ 1001 by grind) (show (0 : Rat) ≤ (lim : Rat) by grind)
    rw [ab_le] at es ⊢
    generalize (lim : Rat) = L at *
    grind

end Go.Proofs.Qxb6604785a
