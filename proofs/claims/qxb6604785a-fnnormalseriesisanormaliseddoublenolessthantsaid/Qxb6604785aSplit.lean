/-
  Dekker's split and product over the rationals: the halves are short, so their products are exact.
-/
import Derived.Test.Qxb6604785aWord
namespace Go.Proofs.Qxb6604785a

def tiny : Rat := p2 (-1022)
theorem tiny_pos : 0 < tiny := p2_pos _

theorem Fl.err' {X r A : Rat} (h : Fl X r) (hX : ab X ≤ A) (hA : tiny ≤ A) : ab (r - X) ≤ A / 9007199254740992 := h.err hX hA

def SplitR (a h l : Rat) : Prop := ∃ c d, Fl (134217729 * a) c ∧ Fl (c - a) d ∧ Fl (c - d) h ∧ Fl (a - h) l

theorem SplitR.neg {a h l : Rat} (H : SplitR a h l) : SplitR (-a) (-h) (-l) := by
  obtain ⟨c, d, h1, h2, h3, h4⟩ := H
  refine ⟨-c, -d, ?_, ?_, ?_, ?_⟩
  · have := h1.neg; rw [show -(134217729 * a) = 134217729 * -a from by grind] at this; exact this
  · have := h2.neg; rw [show -(c - a) = -c - -a from by grind] at this; exact this
  · have := h3.neg; rw [show -(c - d) = -c - -d from by grind] at this; exact this
  · have := h4.neg; rw [show -(a - h) = -a - -h from by grind] at this; exact this

/-- a is A units. -/
theorem split_pos {a h l : Rat} {A i : Int} (H : SplitR a h l) (hi : -1074 ≤ i) (ha : a = (A : Rat) * p2 i) (A1 : 4503599627370496 ≤ A) (A2 : A < 9007199254740992) :
    h + l = a ∧ (∃ M : Int, h = (M : Rat) * p2 (27 + i) ∧ 0 ≤ M ∧ M ≤ 67108864) ∧ (∃ N : Int, l = (N : Rat) * p2 i ∧ -67108864 ≤ N ∧ N ≤ 67108864) := by
  obtain ⟨c, d, h1, h2, h3, h4⟩ := H
  have hu := p2_pos i
  have e27 : p2 (27 + i) = 134217728 * p2 i := by
    rw [p2_add]; have : p2 27 = 134217728 := by have := p2_nat 27; simpa using this
    rw [this]
  have e28 : p2 (28 + i) = 268435456 * p2 i := by
    rw [p2_add]; have : p2 28 = 268435456 := by have := p2_nat 28; simpa using this
    rw [this]
  have A1' : ((4503599627370496 : Int) : Rat) ≤ (A : Rat) := Rat.intCast_le_intCast.2 A1
  have A2' : (A : Rat) ≤ ((9007199254740991 : Int) : Rat) := Rat.intCast_le_intCast.2 (by omega)
  have q1 : ((4503599627370496 : Int) : Rat) = 4503599627370496 := rfl
  have q2 : ((9007199254740991 : Int) : Rat) = 9007199254740991 := rfl
  rw [q1] at A1'
  rw [q2] at A2'
  have a1 := Rat.mul_le_mul_of_nonneg_right A1' (Rat.le_of_lt hu)
  have a2 := Rat.mul_le_mul_of_nonneg_right A2' (Rat.le_of_lt hu)
  rw [← ha] at a1 a2
  generalize hU : p2 i = u at *
  have apos : 0 ≤ 134217729 * a := by grind
  -- c
  obtain ⟨zc, hzc⟩ := h1.mult (k := 27 + i) (by omega) (by rw [e27, ab_pos apos]; grind)
  have ec := h1.half (k := 28 + i) (by omega) (by rw [e28, ab_pos apos]; grind)
  rw [e28, ab_le] at ec
  -- c - a is at least 2^79 units
  have low : 604462909807314587353088 * u ≤ c - a := by
    by_cases hA : A = 4503599627370496
    · have : Rep (134217729 * a) := by
        refine rep_int (z := 134217729) (k := 52 + i) (by omega) ?_ ?_
        · rw [p2_52, hU, ha, hA, q1]
          have : ((134217729 : Int) : Rat) = 134217729 := rfl
          rw [this]
        · rw [ab_pos apos, p2_52, hU]; grind
      have := h1.exact this
      grind
    · have A3 : ((4503599627370497 : Int) : Rat) ≤ (A : Rat) := Rat.intCast_le_intCast.2 (by omega)
      have q3 : ((4503599627370497 : Int) : Rat) = 4503599627370497 := rfl
      rw [q3] at A3
      have a3 := Rat.mul_le_mul_of_nonneg_right A3 (Rat.le_of_lt hu)
      rw [← ha] at a3
      grind
  have upp : c - a ≤ 1208925819614629174706176 * u := by grind
  have cpos : 0 ≤ c - a := by grind
  -- d
  obtain ⟨zd, hzd⟩ := h2.mult (k := 27 + i) (by omega) (by rw [e27, ab_pos cpos]; grind)
  have ed := h2.half (k := 27 + i) (by omega) (by rw [e27, ab_pos cpos]; grind)
  rw [e27, ab_le] at ed
  -- h
  have hcd : c - d = ((zc - zd : Int) : Rat) * p2 (27 + i) := by rw [hzc, hzd, Rat.intCast_sub]; grind
  have hh : h = c - d := h3.exact (rep_int (by omega) hcd (by rw [e27, ab_le]; grind))
  rw [hcd] at hh
  have hh2 : h = c - d := by rw [hh, hcd]
  generalize zc - zd = M at *
  have m1 : M ≤ 67108864 := by
    have : (M : Rat) < ((67108865 : Int) : Rat) := by
      have q : ((67108865 : Int) : Rat) = 67108865 := rfl
      rw [q]
      exact Rat.lt_of_mul_lt_mul_right (c := u) (by rw [e27] at hh; grind) (Rat.le_of_lt hu)
    have := Rat.intCast_lt_intCast.1 this
    omega
  have m0 : 0 ≤ M := by
    have : ((-1 : Int) : Rat) < (M : Rat) := by
      have q : ((-1 : Int) : Rat) = -1 := rfl
      rw [q]
      exact Rat.lt_of_mul_lt_mul_right (c := u) (by rw [e27] at hh; grind) (Rat.le_of_lt hu)
    have := Rat.intCast_lt_intCast.1 this
    omega
  -- l
  have hal : a - h = ((A - M * 134217728 : Int) : Rat) * p2 i := by
    rw [hU, ha, hh, e27, Rat.intCast_sub, Rat.intCast_mul]
    have q : ((134217728 : Int) : Rat) = 134217728 := rfl
    rw [q]; grind
  have hl : l = a - h := h4.exact (rep_int hi hal (by rw [hU, ab_le]; grind))
  refine ⟨by grind, ⟨M, hh, m0, m1⟩, ⟨A - M * 134217728, by rw [hl, hal, hU], ?_, ?_⟩⟩
  · have : ((-67108865 : Int) : Rat) < ((A - M * 134217728 : Int) : Rat) := by
      have q : ((-67108865 : Int) : Rat) = -67108865 := rfl
      rw [q]
      exact Rat.lt_of_mul_lt_mul_right (c := u) (by rw [hU] at hal; grind) (Rat.le_of_lt hu)
    have := Rat.intCast_lt_intCast.1 this
    omega
  · have : ((A - M * 134217728 : Int) : Rat) < ((67108865 : Int) : Rat) := by
      have q : ((67108865 : Int) : Rat) = 67108865 := rfl
      rw [q]
      exact Rat.lt_of_mul_lt_mul_right (c := u) (by rw [hU] at hal; grind) (Rat.le_of_lt hu)
    have := Rat.intCast_lt_intCast.1 this
    omega

/-- The split of a number of either sign that is not tiny: its unit, its short halves. -/
theorem split_any {a h l : Rat} (ha : Rep a) (hn : tiny ≤ ab a) (H : SplitR a h l) :
    ∃ i : Int, -1074 ≤ i ∧ ab a < 9007199254740992 * p2 i ∧ 4503599627370496 * p2 i ≤ ab a ∧ h + l = a ∧ (∃ M : Int, h = (M : Rat) * p2 (27 + i) ∧ -67108864 ≤ M ∧ M ≤ 67108864) ∧ (∃ N : Int, l = (N : Rat) * p2 i ∧ -67108864 ≤ N ∧ N ≤ 67108864) := by
  obtain ⟨i, hi, i1, i2⟩ := unit_of hn
  obtain ⟨A, hA⟩ := ha.mult i1
  have hu := p2_pos i
  refine ⟨i, hi, i2, i1, ?_⟩
  have c1 : ((4503599627370496 : Int) : Rat) = 4503599627370496 := rfl
  have c2 : ((9007199254740992 : Int) : Rat) = 9007199254740992 := rfl
  by_cases hs : 0 ≤ a
  · rw [ab_pos hs] at i1 i2
    rw [hA] at i1 i2
    have A1 : 4503599627370496 ≤ A := Rat.intCast_le_intCast.1 (by rw [c1]; exact Rat.le_of_mul_le_mul_right i1 hu)
    have A2 : A < 9007199254740992 := Rat.intCast_lt_intCast.1 (by rw [c2]; exact Rat.lt_of_mul_lt_mul_right i2 (Rat.le_of_lt hu))
    obtain ⟨s1, ⟨M, m1, m2, m3⟩, s3⟩ := split_pos H hi hA A1 A2
    exact ⟨s1, ⟨M, m1, by omega, m3⟩, s3⟩
  · have e : ab a = -a := by unfold ab; grind
    rw [e] at i1 i2
    have hA' : -a = ((-A : Int) : Rat) * p2 i := by rw [hA, Rat.intCast_neg]; grind
    rw [hA'] at i1 i2
    have A1 : 4503599627370496 ≤ -A := Rat.intCast_le_intCast.1 (by rw [c1]; exact Rat.le_of_mul_le_mul_right i1 hu)
    have A2 : -A < 9007199254740992 := Rat.intCast_lt_intCast.1 (by rw [c2]; exact Rat.lt_of_mul_lt_mul_right i2 (Rat.le_of_lt hu))
    obtain ⟨s1, ⟨M, m1, m2, m3⟩, ⟨N, n1, n2, n3⟩⟩ := split_pos H.neg hi hA' A1 A2
    refine ⟨by grind, ⟨-M, by rw [Rat.intCast_neg]; grind, by omega, by omega⟩, ⟨-N, by rw [Rat.intCast_neg]; grind, by omega, by omega⟩⟩


theorem ab_mul (x y : Rat) : ab (x * y) = ab x * ab y := by
  have key : ∀ x y : Rat, 0 ≤ x → ab (x * y) = ab x * ab y := by
    intro x y hx
    by_cases hy : 0 ≤ y
    · rw [ab_pos hx, ab_pos hy, ab_pos (Rat.mul_nonneg hx hy)]
    · have e : ab y = -y := by unfold ab; grind
      have h1 : 0 ≤ x * -y := Rat.mul_nonneg hx (by grind)
      rw [ab_pos hx, e, ← ab_neg, ← ab_pos h1]
      rw [show -(x * y) = x * -y from by grind]
  by_cases hx : 0 ≤ x
  · exact key x y hx
  · have h := key (-x) y (by grind)
    rw [ab_neg x] at h
    rw [← h, ← ab_neg, show -(x * y) = -x * y from by grind]

theorem ab_mul_le {x y E F : Rat} (h1 : ab x ≤ E) (h2 : ab y ≤ F) : ab (x * y) ≤ E * F := by
  rw [ab_mul]
  have a0 := ab_nonneg x
  have b0 := ab_nonneg y
  have a1 := Rat.mul_le_mul_of_nonneg_right h1 b0
  have a2 := Rat.mul_le_mul_of_nonneg_left h2 (show 0 ≤ E by grind)
  grind

def TwoProdR (a b p e : Rat) : Prop :=
  ∃ ah al bh bl x1 y1 x2 y2 x3 y3 x4, Fl (a * b) p ∧ SplitR a ah al ∧ SplitR b bh bl ∧ Fl (ah * bh) x1 ∧ Fl (x1 - p) y1 ∧ Fl (ah * bl) x2 ∧ Fl (y1 + x2) y2 ∧ Fl (al * bh) x3 ∧ Fl (y2 + x3) y3 ∧ Fl (al * bl) x4 ∧ Fl (y3 + x4) e

theorem short_rep {x y : Rat} {M N i j : Int} (hx : x = (M : Rat) * p2 i) (hy : y = (N : Rat) * p2 j) (m1 : -67108864 ≤ M) (m2 : M ≤ 67108864) (n1 : -67108864 ≤ N) (n2 : N ≤ 67108864) (hij : -1074 ≤ i + j) : Rep (x * y) := by
  have hM : M.natAbs ≤ 67108864 := by omega
  have hN : N.natAbs ≤ 67108864 := by omega
  have hMN := Nat.mul_le_mul hM hN
  rw [← Int.natAbs_mul] at hMN
  refine ⟨M * N, i + j, hij, by omega, by omega, ?_⟩
  rw [hx, hy, p2_add, Rat.intCast_mul]; grind

/-- The product and its error, to within 2^-73. -/
theorem twoProd_err {a b p e S : Rat} (ha : Rep a) (hb : Rep b) (H : TwoProdR a b p e) (hS : S = ab a * ab b) (na : tiny ≤ ab a) (nb : tiny ≤ ab b) (hbig : 1606938044258990275541962092341162602522202993782792835301376 * tiny ≤ S) :
    ab (p - a * b) ≤ S / 9007199254740992 ∧ ab e ≤ S / 2251799813685248 ∧ ab (p + e - a * b) ≤ S / 9444732965739290427392 := by
  obtain ⟨ah, al, bh, bl, x1, y1, x2, y2, x3, y3, x4, hp, sa, sb, f1, g1, f2, g2, f3, g3, f4, g4⟩ := H
  have t0 := tiny_pos
  obtain ⟨i, hi, i1, i2, ea, ⟨M, m0, m1, m2⟩, ⟨N, n0, n1, n2⟩⟩ := split_any ha na sa
  obtain ⟨j, hj, j1, j2, eb, ⟨M', m0', m1', m2'⟩, ⟨N', n0', n1', n2'⟩⟩ := split_any hb nb sb
  have hui := p2_pos i
  have huj := p2_pos j
  have hij : -1074 ≤ i + j := by
    by_cases hh : -1074 ≤ i + j
    · exact hh
    · exfalso
      have h1 := p2_mono (show i + j ≤ -1074 by omega)
      rw [p2_add] at h1
      have h2 : p2 (-1074) ≤ tiny := p2_mono (by decide)
      have h3 := Rat.mul_le_mul_of_nonneg_right (Rat.le_of_lt i1) (ab_nonneg b)
      have h4 := Rat.mul_le_mul_of_nonneg_left (Rat.le_of_lt j1) (show (0 : Rat) ≤ 9007199254740992 * p2 i by grind)
      grind
  have ex1 := f1.exact (short_rep m0 m0' m1 m2 m1' m2' (by omega))
  have ex2 := f2.exact (short_rep m0 n0' m1 m2 n1' n2' (by omega))
  have ex3 := f3.exact (short_rep n0 m0' n1 n2 m1' m2' (by omega))
  have ex4 := f4.exact (short_rep n0 n0' n1 n2 n1' n2' (by omega))
  subst ex1 ex2 ex3 ex4
  -- the halves' sizes
  have lo : ∀ {x : Rat} {N k : Int}, x = (N : Rat) * p2 k → -67108864 ≤ N → N ≤ 67108864 → ab x ≤ 67108864 * p2 k := by
    intro x N k hx h1 h2
    have c1 : ((67108864 : Int) : Rat) = 67108864 := rfl
    have c2 : ((-67108864 : Int) : Rat) = -67108864 := rfl
    have h1' : ((-67108864 : Int) : Rat) ≤ (N : Rat) := Rat.intCast_le_intCast.2 h1
    have h2' : (N : Rat) ≤ ((67108864 : Int) : Rat) := Rat.intCast_le_intCast.2 h2
    rw [c2] at h1'
    rw [c1] at h2'
    have a1 := Rat.mul_le_mul_of_nonneg_right h1' (Rat.le_of_lt (p2_pos k))
    have a2 := Rat.mul_le_mul_of_nonneg_right h2' (Rat.le_of_lt (p2_pos k))
    rw [hx, ab_le]; grind
  have hal := lo n0 n1 n2
  have hbl := lo n0' n1' n2'
  have hal' : ab al ≤ ab a / 67108864 := by grind
  have hbl' : ab bl ≤ ab b / 67108864 := by grind
  have hah' : ab ah ≤ ab a * (67108865 / 67108864) := by
    have e : ah = a - al := by grind
    rw [e, ab_le]
    have := ab_le_self a
    have := neg_ab_le a
    rw [ab_le] at hal'
    grind
  have hbh' : ab bh ≤ ab b * (67108865 / 67108864) := by
    have e : bh = b - bl := by grind
    rw [e, ab_le]
    have := ab_le_self b
    have := neg_ab_le b
    rw [ab_le] at hbl'
    grind
  have b2 := ab_mul_le hah' hbl'
  have b3 := ab_mul_le hal' hbh'
  have b4 := ab_mul_le hal' hbl'
  have hab : ab (a * b) ≤ S := by rw [ab_mul, hS]; grind
  have b2' : ab (ah * bl) ≤ S / 67000000 := by rw [hS]; grind
  have b3' : ab (al * bh) ≤ S / 67000000 := by rw [hS]; grind
  have b4' : ab (al * bl) ≤ S / 4503599627370496 := by rw [hS]; grind
  have S0 : 0 < S := by grind
  have esum : a * b = ah * bh + ah * bl + al * bh + al * bl := by rw [← ea, ← eb]; grind
  clear b2 b3 b4 hal hbl hal' hbl' hah' hbh' lo m0 n0 m0' n0' hS
  generalize ah * bh = P1 at *
  generalize ah * bl = P2 at *
  generalize al * bh = P3 at *
  generalize al * bl = P4 at *
  generalize a * b = T at *
  have r0 := hp.err' hab (by grind)
  rw [ab_le] at r0 b2' b3' b4'
  have r1 := g1.err' (A := S / 16777216) (by rw [ab_le]; grind) (by grind)
  rw [ab_le] at r1
  have r2 := g2.err' (A := S / 8388608) (by rw [ab_le]; grind) (by grind)
  rw [ab_le] at r2
  have r3 := g3.err' (A := S / 1125899906842624) (by rw [ab_le]; grind) (by grind)
  rw [ab_le] at r3
  have r4 := g4.err' (A := S / 1125899906842624) (by rw [ab_le]; grind) (by grind)
  rw [ab_le] at r4
  refine ⟨by rw [ab_le]; grind, by rw [ab_le]; grind, by rw [ab_le]; grind⟩

end Go.Proofs.Qxb6604785a
