/-
  The loop of normalSeries on words: from a t that is not tiny it runs to its end, and what it ends with.
-/
import Derived.Test.Qxb6604785aSer2
import Derived.Test.Qxb6604785aDdEx
namespace Go.Proofs.Qxb6604785a

def w1 : Nat := 4607182418800017408
def w2 : Nat := 4611686018427387904
def w80 : Nat := 4246894448610377728

theorem w1_fin : fin w1 ∧ val w1 = 1 := by
  have e : Ieee.double.read w1 = .number false 4503599627370496 (-52) := by decide
  refine ⟨⟨_, _, _, e⟩, ?_⟩
  unfold val
  rw [e, dval_number]
  have h : p2 (-52) * 4503599627370496 = 1 := by
    have h52 : p2 52 = 4503599627370496 := by have := p2_nat 52; simpa using this
    rw [← h52, ← p2_add]; exact p2_zero
  have c : ((4503599627370496 : Nat) : Rat) = 4503599627370496 := rfl
  simp only [Bool.false_eq_true, if_false]
  rw [c]; grind
theorem w2_fin : fin w2 ∧ val w2 = 2 := by
  have e : Ieee.double.read w2 = .number false 4503599627370496 (-51) := by decide
  refine ⟨⟨_, _, _, e⟩, ?_⟩
  unfold val
  rw [e, dval_number]
  have h : p2 (-51) * 2251799813685248 = 1 := by
    have h51 : p2 51 = 2251799813685248 := by have := p2_nat 51; simpa using this
    rw [← h51, ← p2_add]; exact p2_zero
  have c : ((4503599627370496 : Nat) : Rat) = 4503599627370496 := rfl
  simp only [Bool.false_eq_true, if_false]
  rw [c]; grind
theorem w80_fin : fin w80 ∧ val w80 = 1 / 1208925819614629174706176 := by
  have e : Ieee.double.read w80 = .number false 4503599627370496 (-132) := by decide
  refine ⟨⟨_, _, _, e⟩, ?_⟩
  unfold val
  rw [e, dval_number]
  have h : p2 (-132) * 5444517870735015415413993718908291383296 = 1 := by
    have h132 : p2 132 = 5444517870735015415413993718908291383296 := by have := p2_nat 132; simpa using this
    rw [← h132, ← p2_add]; exact p2_zero
  have c : ((4503599627370496 : Nat) : Rat) = 4503599627370496 := rfl
  simp only [Bool.false_eq_true, if_false]
  rw [c]; grind
theorem w0_fin : fin 0 ∧ val 0 = 0 := by
  have e : Ieee.double.read 0 = .number false 0 (-1074) := by decide
  refine ⟨⟨_, _, _, e⟩, ?_⟩
  unfold val
  rw [e, dval_number]
  have c : ((0 : Nat) : Rat) = 0 := rfl
  simp only [Bool.false_eq_true, if_false]
  rw [c]; grind

theorem rep_nat (n : Nat) (h : n ≤ 9007199254740992) : Rep (n : Rat) := by
  refine ⟨(n : Int), 0, by decide, by omega, by omega, ?_⟩
  rw [p2_zero]
  have : (((n : Nat) : Int) : Rat) = (n : Rat) := rfl
  rw [this]; grind

/-- The words' values are representable. -/
theorem fin_rep {a : Nat} (h : fin a) : Rep (val a) := by
  obtain ⟨s, m, p, e⟩ := h
  obtain ⟨e1, e2, e3, e4, _⟩ := dbl_facts
  have hv : val a = dval (.number s m p) := by unfold val; rw [e]
  have hmp : m ≤ 9007199254740992 ∧ -1074 ≤ p := by
    unfold Ieee.Format.read at e
    rw [e1, e2, e3, e4] at e
    dsimp only at e
    split at e
    · cases e; omega
    · split at e
      · cases e
        have := Nat.mod_lt (a % 9223372036854775808) (show 0 < 4503599627370496 by decide)
        omega
      · split at e <;> cases e
  rw [hv, dval_number]
  cases s
  · exact ⟨(m : Int), p, hmp.2, by omega, by omega, by simp only [Bool.false_eq_true, if_false]; rfl⟩
  · exact ⟨-(m : Int), p, hmp.2, by omega, by omega, by simp only [if_true]; rw [Rat.intCast_neg]; rfl⟩

def RoundW (qh ql th tl sh sl n th' tl' sh' sl' n' : Nat) : Prop :=
  ∃ ph pl d m x y, MulW th tl qh ql ph pl ∧ floatBits .mul .f64 w2 n = some d ∧ floatBits .add .f64 d w1 = some m ∧ QuoW ph pl m 0 th' tl' ∧ AddW sh sl th' tl' x y sh' sl' ∧ floatBits .add .f64 n w1 = some n'

/-- 'f' rounds from here, then the end. -/
def Goes (qh ql : Nat) (P : Nat → Nat → Prop) : Nat → Nat → Nat → Nat → Nat → Nat → Prop
  | 0, th, _, sh, sl, _ => (∃ c, floatBits .mul .f64 w80 sh = some c ∧ (Ieee.double.order th c == some .gt) = false) ∧ P sh sl
  | f + 1, th, tl, sh, sl, n => (∃ c, floatBits .mul .f64 w80 sh = some c ∧ (Ieee.double.order th c == some .gt) = true) ∧
      ∃ th' tl' sh' sl' n', RoundW qh ql th tl sh sl n th' tl' sh' sl' n' ∧ Goes qh ql P f th' tl' sh' sl' n'

theorem lim_huge : 2239744742177804210557442280568444278121645497234649534899989100963791871180160945380877493271607115776 * (lim : Rat) ≤ huge ∧ 1 ≤ (lim : Rat) := by
  have e : (lim : Rat) = p2 660 := by rw [show (660 : Int) = ((660 : Nat) : Int) from rfl, p2_nat]; rfl
  constructor
  · have e3 : p2 340 = 2239744742177804210557442280568444278121645497234649534899989100963791871180160945380877493271607115776 := by have := p2_nat 340; rw [show ((340 : Nat) : Int) = 340 from rfl] at this; rw [this]; decide +kernel
    rw [e, ← e3, ← p2_add]
    exact p2_mono (by decide)
  · rw [e, ← p2_zero]
    exact p2_mono (by decide)

/-- The test at the loop's head. -/
theorem cond_spec {th sh : Nat} (f1 : fin th) (f2 : fin sh) (hs0 : 0 < val sh) (hs1 : 1606938044258990275541962092341162602522202993782792835301376 * tiny ≤ val sh) (hs2 : val sh ≤ huge) :
    ∃ c, floatBits .mul .f64 w80 sh = some c ∧ (((Ieee.double.order th c == some .gt) = true ∧ val sh / 2417851639229258349412352 ≤ val th) ∨ ((Ieee.double.order th c == some .gt) = false ∧ val th ≤ val sh / 604462909807314587353088)) := by
  have t0 := tiny_pos
  obtain ⟨g1, g2⟩ := w80_fin
  obtain ⟨c, c1, c2, c3, _⟩ := mul_ex g1 f2 (A := 1) (B := val sh) (by rw [g2, ab_le]; grind) (by rw [ab_le]; grind) (by grind)
  rw [g2] at c3
  have r := c3.fl.err' (A := val sh / 1208925819614629174706176) (by rw [ab_le]; grind) (by grind)
  rw [ab_le] at r
  have ho := order_spec f1 c2
  refine ⟨c, c1, ?_⟩
  rw [ho]
  by_cases h1 : val th < val c
  · right
    rw [if_pos h1]
    exact ⟨by decide, by grind⟩
  · by_cases h2 : val th = val c
    · right
      rw [if_neg h1, if_pos h2]
      exact ⟨by decide, by grind⟩
    · left
      rw [if_neg h1, if_neg h2]
      exact ⟨by decide, by grind⟩

/-- What the loop ends with, t not tiny. -/
def EndB (t : Rat) (sh sl : Nat) : Prop :=
  fin sh ∧ fin sl ∧ Rn (val sh + val sl) (val sh) ∧ ∃ (K : Nat) (a b : Rat), K ≤ 1000 ∧ Keeps t K a b (val sh) (val sl) ∧ T t K ≤ F t K / 1180591620717411303424

theorem loop_B {t : Rat} {qh ql : Nat} (ht : 0 < t) (h30 : t ≤ 30) (hlow : 2037035976334486086268445688409378161051468393665936250636140449354381299763336706183397376 * tiny ≤ t * t * t) (hlow1 : 2037035976334486086268445688409378161051468393665936250636140449354381299763336706183397376 * tiny ≤ t) (hlow2 : 2037035976334486086268445688409378161051468393665936250636140449354381299763336706183397376 * tiny ≤ t * t)
    (fq : fin qh) (fql : fin ql) (hql : ab (val ql) ≤ val qh / 1125899906842624) (hq : ab (val qh + val ql - t * t) ≤ t * t / 9444732965739290427392) :
    ∀ (j n : Nat) (th tl sh sl nw : Nat), n + j = 985 → fin th → fin tl → fin sh → fin sl → fin nw → val nw = (n : Rat) + 1 → Keeps t n (val th) (val tl) (val sh) (val sl) → (n = 0 ∨ Rn (val sh + val sl) (val sh)) →
      (n = 0 → val th = t ∧ val sh = t) → ∃ f, Goes qh ql (EndB t) f th tl sh sl nw := by
  have t0 := tiny_pos
  obtain ⟨L1, L2⟩ := lim_huge
  have h9 : t * t ≤ 900 := by
    have := le_mul h30 h30 (Rat.le_of_lt ht) (by decide)
    grind
  have qp : 0 < t * t := Rat.mul_pos ht ht
  have hq' := hq
  have hql' := hql
  rw [ab_le] at hq' hql'
  have qb : t * t ≤ 2 * val qh ∧ val qh ≤ 1001 / 1000 * (t * t) := by grind
  intro j
  induction j with
  | zero =>
    intro n th tl sh sl nw hn f1 f2 f3 f4 f5 hnw I hN h0
    obtain rfl : n = 985 := by omega
    have et := I.et
    have es := I.es
    have Tp := T_pos ht 985
    have Fp := (T_le_F ht 985).2
    have hend := T_end ht h9
    have fup := F_upper ht h30 (n := 985) (by omega)
    have e985 : ((985 : Nat) : Rat) = 985 := rfl
    have btl := I.btl
    have bsl := I.bsl
    have s0 := I.s0
    have th0 := I.t0
    rw [e985] at et es fup
    rw [ab_le] at et es btl bsl
    obtain ⟨c, c1, c2⟩ := cond_spec f1 f3 s0 (by grind) (by grind)
    have hR : Rn (val sh + val sl) (val sh) := by rcases hN with h | h; omega; exact h
    rcases c2 with ⟨_, c2⟩ | ⟨c2, _⟩
    · exfalso; grind
    · exact ⟨0, ⟨c, c1, c2⟩, f3, f4, hR, 985, val th, val tl, by omega, I, by grind⟩
  | succ j ih =>
    intro n th tl sh sl nw hn f1 f2 f3 f4 f5 hnw I hN h0
    have hn2 : n ≤ 985 := by omega
    have hnR : (n : Rat) ≤ 985 := by
      have := Rat.natCast_le_natCast.2 hn2
      have e : ((985 : Nat) : Rat) = 985 := rfl
      rw [e] at this
      exact this
    have hn0 := natR n
    have et := I.et
    have es := I.es
    have Tp := T_pos ht n
    have TF := T_le_F ht n
    have Tup := T_upper ht h30 (n := n) (by omega)
    have fup := F_upper ht h30 (n := n) (by omega)
    have btl := I.btl
    have bsl := I.bsl
    have s0 := I.s0
    have th0 := I.t0
    have eb1 := Rat.mul_le_mul_of_nonneg_right (show (n : Rat) / 295147905179352825856 ≤ 1 / 144115188075855872 by grind) (Rat.le_of_lt Tp)
    have eb2 := Rat.mul_le_mul_of_nonneg_right (show 2 * ((n : Rat) / 295147905179352825856) ≤ 1 / 144115188075855872 by grind) (show 0 ≤ F t n by grind)
    have fup2 := Rat.mul_le_mul_of_nonneg_right (show (n : Rat) + 1 ≤ 1000 by grind) (show (0 : Rat) ≤ (lim : Rat) by grind)
    rw [ab_le] at et es btl bsl
    generalize hTn : T t n = Tn at *
    generalize hFn : F t n = Fn at *
    generalize hL : (lim : Rat) = L at *
    have thU : val th ≤ 2 * L := by grind
    have shU : val sh ≤ 2000 * L := by grind
    have shL : t ≤ 2 * val sh := by grind
    obtain ⟨c, c1, c2⟩ := cond_spec f1 f3 s0 (by grind) (by grind)
    rcases c2 with ⟨c2, c3⟩ | ⟨c2, c3⟩
    · -- another round
      have thL : t ≤ 4835703278458516698824704 * val th := by grind
      have big : 3291009114642412084309938365114701009965471731267159726697218048 * tiny ≤ val th * val qh := by
        have b1 := le_mul thL (show t * t ≤ 2 * val qh from qb.1) (Rat.le_of_lt ht) (by grind)
        grind
      obtain ⟨ph, pl, M1, M2, M3, M4, M5, M6⟩ := mulW_ex f1 f2 fq fql (A := 2 * L) (B := 1024) (S := 2048 * L) (by rw [ab_le]; grind) (by rw [ab_le]; grind) (by rw [ab_le]; grind) (by rw [ab_le]; grind) (by grind) (by grind) (by grind) (by grind)
      obtain ⟨g1, g2⟩ := w1_fin
      obtain ⟨k1, k2⟩ := w2_fin
      obtain ⟨z1, z2⟩ := w0_fin
      obtain ⟨d, d1, d2, d3, _⟩ := mul_ex k1 f5 (A := 2) (B := 1000) (by rw [k2, ab_le]; grind) (by rw [hnw, ab_le]; grind) (by grind)
      have dv : val d = 2 * ((n : Rat) + 1) := by
        rw [k2, hnw] at d3
        refine d3.fl.exact ?_
        have := rep_nat (2 * (n + 1)) (by omega)
        rw [Rat.natCast_mul, natR_succ n] at this
        exact this
      obtain ⟨m, m1, m2, m3, _⟩ := add_ex d2 g1 (A := 2000) (B := 1) (by rw [dv, ab_le]; grind) (by rw [g2, ab_le]; grind) (by grind)
      have mrep : Rep (2 * (n : Rat) + 3) := by
        have := rep_nat (2 * n + 3) (by omega)
        rw [Rat.natCast_add, Rat.natCast_mul] at this
        exact this
      have mv : val m = 2 * (n : Rat) + 3 := by
        rw [g2, dv, show 2 * ((n : Rat) + 1) + 1 = 2 * (n : Rat) + 3 from by grind] at m3
        exact m3.fl.exact mrep
      obtain ⟨th', tl', Q1, Q2, Q3, Q4, Q5, Q6⟩ := quoW_ex M2 M3 m2 z1 (A := 158456325028528675187087900672 * (2048 * L)) M5 M6 (by rw [mv]; grind) (by rw [mv]; grind) z2 (by grind) (by grind)
      obtain ⟨x, y, sh', sl', A1, A2, A3, A4, A5, A6, A7, A8⟩ := addW_ex f3 f4 Q2 Q3 (A := 174224571863520493293247799005065324265472 * (158456325028528675187087900672 * (2048 * L))) (by rw [ab_le]; grind) (by rw [ab_le]; grind) Q5 Q6 (by grind)
      obtain ⟨nw', n1, n2, n3, _⟩ := add_ex f5 g1 (A := 1000) (B := 1) (by rw [hnw, ab_le]; grind) (by rw [g2, ab_le]; grind) (by grind)
      have nv : val nw' = ((n + 1 : Nat) : Rat) + 1 := by
        rw [hnw, g2] at n3
        rw [natR_succ]
        refine n3.fl.exact ?_
        have := rep_nat (n + 1 + 1) (by omega)
        rw [natR_succ, natR_succ] at this
        exact this
      obtain ⟨I', S1, S2⟩ := step_inv I ht (by omega) mv (fin_rep m2) (fin_rep fq) hql hq (by grind) (by grind) big (by grind) M4 Q4 A6
      obtain ⟨f, hf⟩ := ih (n + 1) th' tl' sh' sl' nw' (by omega) Q2 Q3 A4 A5 n2 nv I' (.inr (by rw [S1]; exact S2)) (by omega)
      exact ⟨f + 1, ⟨c, c1, c2⟩, th', tl', sh', sl', nw', ⟨ph, pl, d, m, x, y, M1, d1, m1, Q1, A1, n1⟩, hf⟩
    · -- the end
      have hR : Rn (val sh + val sl) (val sh) := by
        rcases hN with h | h
        · exfalso
          have := h0 h
          grind
        · exact h
      exact ⟨0, ⟨c, c1, c2⟩, f3, f4, hR, n, val th, val tl, by omega, I, by rw [hTn, hFn]; grind⟩

end Go.Proofs.Qxb6604785a
