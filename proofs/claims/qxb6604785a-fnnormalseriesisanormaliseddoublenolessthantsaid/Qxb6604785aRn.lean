/-
  Rounding to nearest over the rationals: what is representable with 53 digits above 2^-1074, and what 'nearest' gives. No program in sight.
-/
namespace Go.Proofs.Qxb6604785a

def ab (x : Rat) : Rat := if 0 ≤ x then x else -x

theorem ab_le {x e : Rat} : ab x ≤ e ↔ -e ≤ x ∧ x ≤ e := by unfold ab; grind
theorem ab_nonneg (x : Rat) : 0 ≤ ab x := by unfold ab; grind
theorem ab_neg (x : Rat) : ab (-x) = ab x := by unfold ab; grind
theorem ab_pos {x : Rat} (h : 0 ≤ x) : ab x = x := by unfold ab; grind
theorem ab_le_self (x : Rat) : x ≤ ab x := by unfold ab; grind
theorem neg_ab_le (x : Rat) : -(ab x) ≤ x := by unfold ab; grind

def p2 (k : Int) : Rat := (2 : Rat) ^ k

theorem p2_pos (k : Int) : 0 < p2 k := Rat.zpow_pos (by decide)
theorem p2_add (a b : Int) : p2 (a + b) = p2 a * p2 b := Rat.zpow_add (by decide) a b
theorem p2_nat (n : Nat) : p2 (n : Int) = ((2 ^ n : Nat) : Rat) := by
  unfold p2; rw [Rat.zpow_natCast, Rat.natCast_pow]; rfl
theorem p2_zero : p2 0 = 1 := by have := p2_nat 0; simpa using this
theorem p2_up {j k : Int} (h : k ≤ j) : ∃ n : Nat, (n : Int) = j - k ∧ p2 j = ((2 ^ n : Int) : Rat) * p2 k := by
  refine ⟨(j - k).toNat, by omega, ?_⟩
  have e : j = (((j - k).toNat : Nat) : Int) + k := by omega
  conv => lhs; rw [e, p2_add, p2_nat]
  rw [Rat.natCast_pow, Rat.intCast_pow]; rfl
theorem p2_succ (k : Int) : p2 (k + 1) = 2 * p2 k := by
  rw [p2_add]; have : p2 1 = 2 := by have := p2_nat 1; simpa using this
  rw [this]; grind
theorem p2_mono {j k : Int} (h : k ≤ j) : p2 k ≤ p2 j := by
  obtain ⟨n, _, e⟩ := p2_up h
  rw [e]
  have h1 : ((1 : Int) : Rat) ≤ ((2 ^ n : Int) : Rat) := Rat.intCast_le_intCast.2 (by have h0 : (0 : Int) < 2 ^ n := Int.pow_pos (by decide); omega)
  have h2 := Rat.mul_le_mul_of_nonneg_left h1 (Rat.le_of_lt (p2_pos k))
  have h3 : ((1 : Int) : Rat) = 1 := rfl
  rw [h3] at h2
  grind

/-- What a double can be, however great. -/
def Rep (x : Rat) : Prop := ∃ (m k : Int), -1074 ≤ k ∧ -9007199254740992 ≤ m ∧ m ≤ 9007199254740992 ∧ x = (m : Rat) * p2 k

theorem Rep.neg {x : Rat} (h : Rep x) : Rep (-x) := by
  obtain ⟨m, k, h1, h2, h3, rfl⟩ := h
  exact ⟨-m, k, h1, by omega, by omega, by rw [Rat.intCast_neg]; grind⟩

theorem rep_mk (m k : Int) (h1 : -1074 ≤ k) (h2 : -9007199254740992 ≤ m) (h3 : m ≤ 9007199254740992) : Rep ((m : Rat) * p2 k) := ⟨m, k, h1, h2, h3, rfl⟩

theorem rep_p2 (k : Int) (h : -1074 ≤ k) : Rep (p2 k) := ⟨1, k, h, by decide, by decide, by show p2 k = (1 : Rat) * p2 k; grind⟩
theorem rep_zero : Rep 0 := ⟨0, 0, by decide, by decide, by decide, by show (0 : Rat) = (0 : Rat) * p2 0; grind⟩

/-- An integer multiple of a unit, bounded by 2^53 units. -/
theorem rep_int {x : Rat} {z k : Int} (hk : -1074 ≤ k) (hx : x = (z : Rat) * p2 k) (h1 : ab x ≤ 9007199254740992 * p2 k) : Rep x := by
  have hp := p2_pos k
  rw [ab_le] at h1
  rw [hx] at h1
  have a1 : (z : Rat) ≤ ((9007199254740992 : Int) : Rat) := Rat.le_of_mul_le_mul_left (c := p2 k) (by have : ((9007199254740992 : Int) : Rat) = 9007199254740992 := rfl; rw [this]; grind) hp
  have a2 : ((-9007199254740992 : Int) : Rat) ≤ (z : Rat) := Rat.le_of_mul_le_mul_left (c := p2 k) (by have : ((-9007199254740992 : Int) : Rat) = -9007199254740992 := rfl; rw [this]; grind) hp
  exact ⟨z, k, hk, Rat.intCast_le_intCast.1 a2, Rat.intCast_le_intCast.1 a1, hx⟩

/-- r is a nearest representable number to X. -/
def Fl (X r : Rat) : Prop := Rep r ∧ ∀ y, Rep y → ab (r - X) ≤ ab (y - X)

theorem Fl.rep {X r : Rat} (h : Fl X r) : Rep r := h.1
theorem Fl.exact {X r : Rat} (h : Fl X r) (hX : Rep X) : r = X := by
  have := h.2 X hX
  unfold ab at this
  grind
theorem Fl.self {X : Rat} (hX : Rep X) : Fl X X := ⟨hX, fun y _ => by have := ab_nonneg (y - X); have e : X - X = 0 := by grind
                                                                      rw [e]; unfold ab at *; grind⟩
theorem Fl.neg {X r : Rat} (h : Fl X r) : Fl (-X) (-r) := ⟨h.1.neg, fun y hy => by
  have := h.2 (-y) hy.neg
  have e1 : ab (-r - -X) = ab (r - X) := by rw [← ab_neg]; congr 1; grind
  have e2 : ab (y - -X) = ab (-y - X) := by rw [← ab_neg]; congr 1; grind
  rw [e1, e2]; exact this⟩
theorem Fl.le {X r M : Rat} (h : Fl X r) (hM : Rep M) (hx : X ≤ M) : r ≤ M := by
  have := h.2 M hM
  unfold ab at this
  grind
theorem Fl.ge {X r M : Rat} (h : Fl X r) (hM : Rep M) (hx : M ≤ X) : M ≤ r := by
  have := h.2 M hM
  unfold ab at this
  grind
theorem Fl.mono {X Y r s : Rat} (h : Fl X r) (k : Fl Y s) (hxy : X < Y) : r ≤ s := by
  have h1 := h.2 s k.1
  have h2 := k.2 r h.1
  unfold ab at h1 h2
  grind
theorem Fl.dbl {X r : Rat} (h : Fl X r) : ab r ≤ 2 * ab X := by
  have := h.2 0 rep_zero
  unfold ab at *
  grind

/-- The error is at most half a unit. -/
theorem Fl.half {X r : Rat} {k : Int} (h : Fl X r) (hk : -1074 ≤ k) (hX : ab X ≤ 9007199254740992 * p2 k) : ab (r - X) ≤ p2 k / 2 := by
  have hp := p2_pos k
  rw [ab_le] at hX
  have hne : p2 k ≠ 0 := by grind
  have hq : X / p2 k * p2 k = X := Rat.div_mul_cancel hne
  generalize hQ : X / p2 k = Q at hq
  have hz1 := Rat.floor_le (Q + 1 / 2)
  have hz2 := Rat.lt_floor (x := Q + 1 / 2)
  generalize (Q + 1 / 2).floor = z at hz1 hz2
  have q1 : Q ≤ 9007199254740992 := Rat.le_of_mul_le_mul_left (c := p2 k) (by grind) hp
  have q2 : -9007199254740992 ≤ Q := Rat.le_of_mul_le_mul_left (c := p2 k) (by grind) hp
  have c1 : ((9007199254740993 : Int) : Rat) = 9007199254740993 := rfl
  have c2 : ((-9007199254740993 : Int) : Rat) = -9007199254740993 := rfl
  have z1 : z < 9007199254740993 := Rat.intCast_lt_intCast.1 (by rw [c1]; grind)
  have z2 : -9007199254740993 < z := Rat.intCast_lt_intCast.1 (by rw [c2]; grind)
  have hr : Rep ((z : Rat) * p2 k) := rep_mk z k hk (by omega) (by omega)
  have hn := h.2 _ hr
  have e : (z : Rat) * p2 k - X = ((z : Rat) - Q) * p2 k := by rw [← hq]; grind
  have b1 : ((z : Rat) - Q) * p2 k ≤ 1 / 2 * p2 k := Rat.mul_le_mul_of_nonneg_right (by grind) (Rat.le_of_lt hp)
  have b2 : -(1 / 2) * p2 k ≤ ((z : Rat) - Q) * p2 k := Rat.mul_le_mul_of_nonneg_right (by grind) (Rat.le_of_lt hp)
  rw [e] at hn
  have : ab (((z : Rat) - Q) * p2 k) ≤ p2 k / 2 := by rw [ab_le]; grind
  grind


theorem p2_52 (k : Int) : p2 (52 + k) = 4503599627370496 * p2 k := by
  rw [p2_add]; have : p2 52 = 4503599627370496 := by have := p2_nat 52; simpa using this
  rw [this]
theorem p2_53 (k : Int) : p2 (53 + k) = 9007199254740992 * p2 k := by
  rw [p2_add]; have : p2 53 = 9007199254740992 := by have := p2_nat 53; simpa using this
  rw [this]

/-- A representable number of 2^52 units or more is a whole number of units. -/
theorem Rep.mult {r : Rat} {k : Int} (h : Rep r) (hr : 4503599627370496 * p2 k ≤ ab r) : ∃ z : Int, r = (z : Rat) * p2 k := by
  obtain ⟨m, j, hj, m1, m2, rfl⟩ := h
  by_cases hjk : k ≤ j
  · obtain ⟨n, _, e⟩ := p2_up hjk
    exact ⟨m * 2 ^ n, by rw [e, Rat.intCast_mul]; grind⟩
  · obtain ⟨n, hn, e⟩ := p2_up (show j ≤ k by omega)
    have hp := p2_pos j
    have c0 : ((9007199254740992 : Int) : Rat) = 9007199254740992 := rfl
    have c0' : ((-9007199254740992 : Int) : Rat) = -9007199254740992 := rfl
    have m1' : ((-9007199254740992 : Int) : Rat) ≤ (m : Rat) := Rat.intCast_le_intCast.2 m1
    have m2' : (m : Rat) ≤ ((9007199254740992 : Int) : Rat) := Rat.intCast_le_intCast.2 m2
    rw [c0'] at m1'
    rw [c0] at m2'
    have a1 := Rat.mul_le_mul_of_nonneg_right m1' (Rat.le_of_lt hp)
    have a2 := Rat.mul_le_mul_of_nonneg_right m2' (Rat.le_of_lt hp)
    have hab : ab ((m : Rat) * p2 j) ≤ 9007199254740992 * p2 j := by rw [ab_le]; grind
    rw [e] at hr
    -- 2^n is 2
    have h2 : ((2 ^ n : Int) : Rat) ≤ ((2 : Int) : Rat) := by
      have : ((2 : Int) : Rat) = 2 := rfl
      rw [this]
      exact Rat.le_of_mul_le_mul_left (c := p2 j) (by grind) hp
    have h2' := Rat.intCast_le_intCast.1 h2
    have hn1 : n = 1 := by
      rcases n with _ | _ | n
      · omega
      · rfl
      · have h0 : (0 : Int) < 2 ^ n := Int.pow_pos (by decide)
        rw [Int.pow_succ, Int.pow_succ] at h2'
        omega
    subst hn1
    have c2 : ((2 ^ 1 : Int) : Rat) = 2 := rfl
    rw [c2] at hr
    have hm : m = 9007199254740992 ∨ m = -9007199254740992 := by
      by_cases hs : 0 ≤ (m : Rat) * p2 j
      · left
        rw [ab_pos hs] at hr
        have : ((9007199254740992 : Int) : Rat) ≤ (m : Rat) := Rat.le_of_mul_le_mul_left (c := p2 j) (by rw [c0]; grind) hp
        have := Rat.intCast_le_intCast.1 this
        omega
      · right
        have hs' : ab ((m : Rat) * p2 j) = -((m : Rat) * p2 j) := by unfold ab; grind
        rw [hs'] at hr
        have : (m : Rat) ≤ ((-9007199254740992 : Int) : Rat) := Rat.le_of_mul_le_mul_left (c := p2 j) (by rw [c0']; grind) hp
        have := Rat.intCast_le_intCast.1 this
        omega
    rcases hm with rfl | rfl
    · exact ⟨4503599627370496, by rw [e]; have : ((4503599627370496 : Int) : Rat) = 4503599627370496 := rfl
                                  rw [c0, c2, this]; grind⟩
    · exact ⟨-4503599627370496, by rw [e]; have : ((-4503599627370496 : Int) : Rat) = -4503599627370496 := rfl
                                   rw [c0', c2, this]; grind⟩

/-- Rounding keeps what is beyond a power of two beyond it. -/
theorem Fl.ab_ge {X r M : Rat} (h : Fl X r) (hM : Rep M) (hx : M ≤ ab X) : M ≤ ab r := by
  by_cases hs : 0 ≤ X
  · rw [ab_pos hs] at hx
    have := h.ge hM hx
    have := ab_le_self r
    grind
  · have e : ab X = -X := by unfold ab; grind
    rw [e] at hx
    have := h.neg.ge hM hx
    have := ab_le_self (-r)
    rw [ab_neg] at this
    grind
theorem Fl.ab_le' {X r M : Rat} (h : Fl X r) (hM : Rep M) (hx : ab X ≤ M) : ab r ≤ M := by
  rw [ab_le] at hx ⊢
  have h1 := h.le hM hx.2
  have h2 := h.ge hM.neg (by grind)
  grind

theorem Fl.mult {X r : Rat} {k : Int} (h : Fl X r) (hk : -1074 ≤ k) (hx : 4503599627370496 * p2 k ≤ ab X) : ∃ z : Int, r = (z : Rat) * p2 k := by
  refine h.1.mult (h.ab_ge ?_ hx)
  rw [← p2_52]
  exact rep_p2 _ (by omega)

/-- The unit of a number that is not tiny. -/
theorem unit_of {A : Rat} (h : p2 (-1022) ≤ A) : ∃ k : Int, -1074 ≤ k ∧ 4503599627370496 * p2 k ≤ A ∧ A < 9007199254740992 * p2 k := by
  have hp := p2_pos 1022
  have e0 : p2 (-1022) * p2 1022 = 1 := by rw [← p2_add]; exact p2_zero
  have h1 : 1 ≤ A * p2 1022 := by rw [← e0]; exact Rat.mul_le_mul_of_nonneg_right h (Rat.le_of_lt hp)
  have f1 := Rat.floor_le (A * p2 1022)
  have f2 := Rat.lt_floor (x := A * p2 1022)
  have f3 : (1 : Int) ≤ (A * p2 1022).floor := Rat.le_floor_iff.2 h1
  generalize (A * p2 1022).floor = N at f1 f2 f3
  obtain ⟨n, rfl⟩ : ∃ n : Nat, N = (n : Int) := ⟨N.toNat, by omega⟩
  have hn : n ≠ 0 := by omega
  have l1 : 2 ^ n.log2 ≤ n := Nat.log2_self_le hn
  have l2 : n < 2 ^ (n.log2 + 1) := Nat.lt_log2_self
  refine ⟨(n.log2 : Int) - 1074, by omega, ?_, ?_⟩
  · rw [← p2_52]
    have l1' : ((2 ^ n.log2 : Nat) : Rat) ≤ ((n : Nat) : Rat) := Rat.natCast_le_natCast.2 l1
    rw [← p2_nat] at l1'
    have : p2 (52 + ((n.log2 : Int) - 1074)) * p2 1022 ≤ A * p2 1022 := by
      rw [← p2_add, show (52 + ((n.log2 : Int) - 1074)) + 1022 = (n.log2 : Int) from by omega]
      have : (((n : Nat) : Int) : Rat) = ((n : Nat) : Rat) := rfl
      grind
    exact Rat.le_of_mul_le_mul_right this hp
  · rw [← p2_53]
    have l2' : ((n + 1 : Nat) : Rat) ≤ ((2 ^ (n.log2 + 1) : Nat) : Rat) := Rat.natCast_le_natCast.2 l2
    rw [← p2_nat] at l2'
    have : A * p2 1022 < p2 (53 + ((n.log2 : Int) - 1074)) * p2 1022 := by
      rw [← p2_add, show (53 + ((n.log2 : Int) - 1074)) + 1022 = ((n.log2 + 1 : Nat) : Int) from by omega]
      have e1 : (((n : Nat) : Int) : Rat) = ((n : Nat) : Rat) := rfl
      have e2 : ((n + 1 : Nat) : Rat) = ((n : Nat) : Rat) + 1 := by rw [Rat.natCast_add]; rfl
      grind
    exact Rat.lt_of_mul_lt_mul_right this (Rat.le_of_lt hp)

/-- The error against whatever bound that is not tiny. -/
theorem Fl.err {X r A : Rat} (h : Fl X r) (hX : ab X ≤ A) (hA : p2 (-1022) ≤ A) : ab (r - X) ≤ A / 9007199254740992 := by
  obtain ⟨k, hk, k1, k2⟩ := unit_of hA
  have := h.half hk (by grind)
  grind

theorem Rep.small {r : Rat} (h : Rep r) (hr : ab r < p2 (-1074)) : r = 0 := by
  obtain ⟨m, k, hk, _, _, rfl⟩ := h
  obtain ⟨n, _, e⟩ := p2_up hk
  have hp := p2_pos (-1074)
  rw [e] at hr ⊢
  have e2 : (m : Rat) * (((2 ^ n : Int) : Rat) * p2 (-1074)) = ((m * 2 ^ n : Int) : Rat) * p2 (-1074) := by rw [Rat.intCast_mul]; grind
  rw [e2] at hr ⊢
  generalize m * 2 ^ n = z at hr ⊢
  have c1 : ((1 : Int) : Rat) = 1 := rfl
  have c2 : ((-1 : Int) : Rat) = -1 := rfl
  have h1 := ab_le_self ((z : Rat) * p2 (-1074))
  have h2 := neg_ab_le ((z : Rat) * p2 (-1074))
  have z1 : z < 1 := Rat.intCast_lt_intCast.1 (by rw [c1]; exact Rat.lt_of_mul_lt_mul_right (c := p2 (-1074)) (by grind) (Rat.le_of_lt hp))
  have z2 : -1 < z := Rat.intCast_lt_intCast.1 (by rw [c2]; exact Rat.lt_of_mul_lt_mul_right (c := p2 (-1074)) (by grind) (Rat.le_of_lt hp))
  obtain rfl : z = 0 := by omega
  have : ((0 : Int) : Rat) = 0 := rfl
  rw [this]; grind

/-- Sterbenz. -/
theorem sterbenz {a b : Rat} (ha : Rep a) (hb : Rep b) (h1 : a ≤ 2 * b) (h2 : b ≤ 2 * a) : Rep (a - b) := by
  obtain ⟨m, j, hj, m1, m2, ea⟩ := ha
  obtain ⟨n, l, hl, n1, n2, eb⟩ := hb
  have hpj := p2_pos j
  have hpl := p2_pos l
  have c0 : ((9007199254740992 : Int) : Rat) = 9007199254740992 := rfl
  have m2' : (m : Rat) ≤ ((9007199254740992 : Int) : Rat) := Rat.intCast_le_intCast.2 m2
  have n2' : (n : Rat) ≤ ((9007199254740992 : Int) : Rat) := Rat.intCast_le_intCast.2 n2
  rw [c0] at m2' n2'
  have am := Rat.mul_le_mul_of_nonneg_right m2' (Rat.le_of_lt hpj)
  have bn := Rat.mul_le_mul_of_nonneg_right n2' (Rat.le_of_lt hpl)
  rw [← ea] at am
  rw [← eb] at bn
  have hb1 : ab (a - b) ≤ a := by rw [ab_le]; grind
  have hb2 : ab (a - b) ≤ b := by rw [ab_le]; grind
  by_cases hjl : l ≤ j
  · obtain ⟨q, _, e⟩ := p2_up hjl
    refine rep_int (z := m * 2 ^ q - n) (k := l) hl ?_ (by grind)
    rw [ea, eb, e, Rat.intCast_sub, Rat.intCast_mul]; grind
  · obtain ⟨q, _, e⟩ := p2_up (show j ≤ l by omega)
    refine rep_int (z := m - n * 2 ^ q) (k := j) hj ?_ (by grind)
    rw [ea, eb, e, Rat.intCast_sub, Rat.intCast_mul]; grind

end Go.Proofs.Qxb6604785a
