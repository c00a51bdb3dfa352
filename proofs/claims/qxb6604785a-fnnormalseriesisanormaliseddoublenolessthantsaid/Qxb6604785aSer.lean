/-
  The series over the rationals: its terms, its sums so far, and how near one round of the loop keeps to them.
-/
import Derived.Test.Qxb6604785aQuo
namespace Go.Proofs.Qxb6604785a

def T (t : Rat) : Nat → Rat
  | 0 => t
  | n + 1 => T t n * (t * t) / (2 * (n : Rat) + 3)

def F (t : Rat) : Nat → Rat
  | 0 => t
  | n + 1 => F t n + T t (n + 1)

theorem natR (n : Nat) : (0 : Rat) ≤ (n : Rat) := by
  have := Rat.natCast_le_natCast.2 (Nat.zero_le n)
  have e : ((0 : Nat) : Rat) = 0 := rfl
  rw [e] at this
  exact this

theorem natR_succ (n : Nat) : ((n + 1 : Nat) : Rat) = (n : Rat) + 1 := by rw [Rat.natCast_add]; rfl

theorem T_succ (t : Rat) (n : Nat) : T t (n + 1) * (2 * (n : Rat) + 3) = T t n * (t * t) := by
  have := natR n
  show T t n * (t * t) / (2 * (n : Rat) + 3) * (2 * (n : Rat) + 3) = _
  exact Rat.div_mul_cancel (by grind)

theorem T_pos {t : Rat} (ht : 0 < t) (n : Nat) : 0 < T t n := by
  induction n with
  | zero => exact ht
  | succ n ih =>
    have h1 := T_succ t n
    have h2 := Rat.mul_pos ih (Rat.mul_pos ht ht)
    have h3 := natR n
    by_cases hh : 0 < T t (n + 1)
    · exact hh
    · exfalso
      have := Rat.mul_le_mul_of_nonneg_right (show T t (n + 1) ≤ 0 by grind) (show (0 : Rat) ≤ 2 * (n : Rat) + 3 by grind)
      grind

theorem T_le_F {t : Rat} (ht : 0 < t) (n : Nat) : T t n ≤ F t n ∧ t ≤ F t n := by
  induction n with
  | zero => exact ⟨by show t ≤ t; grind, by show t ≤ t; grind⟩
  | succ n ih =>
    have := T_pos ht (n + 1)
    have e : F t (n + 1) = F t n + T t (n + 1) := rfl
    rw [e]
    grind

structure Keeps (t : Rat) (n : Nat) (th tl sh sl : Rat) : Prop where
  rt : Rep th
  rs : Rep sh
  t0 : 0 < th
  s0 : 0 < sh
  btl : ab tl ≤ th / 1125899906842624
  bsl : ab sl ≤ sh / 1125899906842624
  et : ab (th + tl - T t n) ≤ (n : Rat) / 295147905179352825856 * T t n
  es : ab (sh + sl - F t n) ≤ 2 * ((n : Rat) / 295147905179352825856) * F t n

theorem le_mul {a b c d : Rat} (h1 : a ≤ b) (h2 : c ≤ d) (a0 : 0 ≤ a) (d0 : 0 ≤ d) : a * c ≤ b * d := by
  have e1 := Rat.mul_le_mul_of_nonneg_left h2 a0
  have e2 := Rat.mul_le_mul_of_nonneg_right h1 d0
  grind

/-- One round. -/
theorem step_inv {t : Rat} {n : Nat} {th tl sh sl qh ql ph pl th' tl' x y sh' sl' m : Rat} (I : Keeps t n th tl sh sl) (ht : 0 < t) (hn : n ≤ 2000) (hm : m = 2 * (n : Rat) + 3) (rm : Rep m)
    (rq : Rep qh) (hql : ab ql ≤ qh / 1125899906842624) (hq : ab (qh + ql - t * t) ≤ t * t / 9444732965739290427392) (tq : tiny ≤ qh) (tt : tiny ≤ th)
    (hbig : 3291009114642412084309938365114701009965471731267159726697218048 * tiny ≤ th * qh) (hbs : 1645504557321206042154969182557350504982735865633579863348609024 * tiny ≤ sh)
    (M : MulR th tl qh ql ph pl) (Q : QuoR ph pl m 0 th' tl') (A : AddR sh sl th' tl' x y sh' sl') :
    Keeps t (n + 1) th' tl' sh' sl' ∧ sh' + sl' = x + y ∧ Rn (x + y) sh' := by
  have t0 := tiny_pos
  obtain ⟨S, hS⟩ : ∃ S, S = th * qh := ⟨_, rfl⟩
  rw [← hS] at hbig
  obtain ⟨M1, M2, M3, M4⟩ := mul_err M I.rt rq tt tq I.btl hql hS (by grind)
  have rp : Rep ph := by obtain ⟨_, _, _, _, _, _, _, _, _, _, _, qk⟩ := M; exact qk.rep.1
  have hn0 := natR n
  have hn2 : (n : Rat) ≤ 2000 := by
    have := Rat.natCast_le_natCast.2 hn
    have e : ((2000 : Nat) : Rat) = 2000 := rfl
    rw [e] at this
    exact this
  have m3 : 3 ≤ m := by grind
  have hplS : ab pl ≤ ph / 1125899906842624 := M2
  obtain ⟨Q1, Q2, Q3, Q4, Q5⟩ := quo_err Q rp rm (by grind) (by grind) hplS (by grind)
  have rt' : Rep th' := by obtain ⟨_, _, _, _, _, _, _, _, _, _, _, _, qk⟩ := Q; exact qk.rep.1
  obtain ⟨A1, A2, A3, A4, A5, A6⟩ := add_pos A I.rs rt' I.s0 Q3 I.bsl Q2 (by grind)
  -- the exact term
  have hT := T_succ t n
  rw [← hm] at hT
  have Tp := T_pos ht n
  have Tp' := T_pos ht (n + 1)
  have Fp := (T_le_F ht n).2
  have eF : F t (n + 1) = F t n + T t (n + 1) := rfl
  have qp : 0 < t * t := Rat.mul_pos ht ht
  have Iet := I.et
  have Ies := I.es
  have Itl := I.btl
  have Isl := I.bsl
  obtain ⟨E, hE⟩ : ∃ E, E = (n : Rat) / 295147905179352825856 := ⟨_, rfl⟩
  rw [← hE] at Iet Ies
  have E0 : 0 ≤ E := by grind
  have E1 : E ≤ 1 / 144115188075855872 := by grind
  have hE' : ((n + 1 : Nat) : Rat) / 295147905179352825856 = E + 1 / 295147905179352825856 := by rw [natR_succ, hE]; grind
  generalize T t n = Tn at *
  generalize hT1 : T t (n + 1) = T1 at *
  generalize F t n = Fn at *
  generalize t * t = q at *
  have ET : E * Tn ≤ 1 / 144115188075855872 * Tn := Rat.mul_le_mul_of_nonneg_right E1 (Rat.le_of_lt Tp)
  have ETn0 : 0 ≤ E * Tn := Rat.mul_nonneg E0 (Rat.le_of_lt Tp)
  have Itl' := Itl
  have Iet' := Iet
  have hql' := hql
  have hq' := hq
  rw [ab_le] at Itl' Iet' hql' hq'
  -- th qh against Tn q
  have b1 : th ≤ 1001 / 1000 * Tn := by grind
  have b2 : qh ≤ 1001 / 1000 * q := by grind
  have b3 := le_mul b1 b2 (Rat.le_of_lt I.t0) (by grind)
  have ZS : S ≤ 1003 / 1000 * (Tn * q) := by rw [hS]; grind
  -- V W against Tn q
  have d1 := ab_mul_le Iet (show ab (qh + ql) ≤ 9444732965739290427393 / 9444732965739290427392 * q by rw [ab_le]; grind)
  have d2 := ab_mul_le (show ab Tn ≤ Tn by rw [ab_le]; grind) hq
  have eVW : (th + tl) * (qh + ql) - Tn * q = (th + tl - Tn) * (qh + ql) + Tn * (qh + ql - q) := by grind
  obtain ⟨Z, hZ⟩ : ∃ Z, Z = Tn * q := ⟨_, rfl⟩
  have Zp : 0 < Z := by rw [hZ]; exact Rat.mul_pos Tp qp
  have EZ : E * Z ≤ 1 / 144115188075855872 * Z := Rat.mul_le_mul_of_nonneg_right E1 (Rat.le_of_lt Zp)
  have d1' : ab ((th + tl - Tn) * (qh + ql)) ≤ E * Z + Z / 9444732965739290427392 := by rw [hZ] at EZ ⊢; grind
  have d2' : ab (Tn * (qh + ql - q)) ≤ Z / 9444732965739290427392 := by rw [hZ]; grind
  have d3 : ab ((th + tl) * (qh + ql) - Z) ≤ E * Z + Z / 4722366482869645213696 := by
    rw [hZ, eVW, ← hZ]
    rw [ab_le] at d1' d2' ⊢
    grind
  rw [← hZ] at ZS hT
  have key : ab ((th' + tl') * m - Z) ≤ E * Z + 1 / 295147905179352825856 * Z := by
    rw [ab_le] at M1 Q1 d3 ⊢
    grind
  -- the new term
  have et' : ab (th' + tl' - T1) ≤ (E + 1 / 295147905179352825856) * T1 := by
    refine Rat.le_of_mul_le_mul_right (c := m) ?_ (by grind)
    have e1 : ab (th' + tl' - T1) * m = ab ((th' + tl') * m - Z) := by
      have : ab m = m := ab_pos (by grind)
      conv => lhs; rw [← this]
      rw [← ab_mul, ← hT]
      rw [show (th' + tl' - T1) * m = (th' + tl') * m - T1 * m from by grind]
    rw [e1]
    have e2 : (E + 1 / 295147905179352825856) * T1 * m = E * Z + 1 / 295147905179352825856 * Z := by rw [← hT]; grind
    rw [e2]
    exact key
  have ET1 : E * T1 ≤ 1 / 144115188075855872 * T1 := Rat.mul_le_mul_of_nonneg_right E1 (Rat.le_of_lt Tp')
  have ET10 : 0 ≤ E * T1 := Rat.mul_nonneg E0 (Rat.le_of_lt Tp')
  have EF : E * Fn ≤ 1 / 144115188075855872 * Fn := Rat.mul_le_mul_of_nonneg_right E1 (by grind)
  have EF0 : 0 ≤ E * Fn := Rat.mul_nonneg E0 (by grind)
  have rs' : Rep sh' := A2.rep
  refine ⟨⟨rt', rs', Q3, by have := I.s0; grind, Q2, A4, ?_, ?_⟩, A1, A2⟩
  · rw [hE', hT1]
    exact et'
  · rw [hE', eF]
    rw [ab_le] at et' Ies A3 Q2 Isl ⊢
    grind

end Go.Proofs.Qxb6604785a
