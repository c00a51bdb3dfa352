/-
  The model's operations on finite doubles, over the rationals.
-/
import Derived.Test.Qxb6604785aNear
namespace Go.Proofs.Qxb6604785a
open Ieee

theorem dval_signed (s : Bool) (m : Nat) (i base : Int) (h : base ≤ i) : dval (.number s m i) = ((signed s m (i - base).toNat : Int) : Rat) * p2 base := by
  have e : p2 i = p2 ((i - base).toNat : Int) * p2 base := by rw [← p2_add, show (((i - base).toNat : Nat) : Int) + base = i from by omega]
  have c : ((m <<< (i - base).toNat : Nat) : Rat) = (m : Rat) * p2 ((i - base).toNat : Int) := natCast_shl _ _
  rw [dval_number, e]
  unfold signed
  cases s
  · simp only [Bool.false_eq_true, if_false]
    have : (((m <<< (i - base).toNat : Nat) : Int) : Rat) = ((m <<< (i - base).toNat : Nat) : Rat) := rfl
    rw [this, c]; grind
  · simp only [if_true]
    have : (((m <<< (i - base).toNat : Nat) : Int) : Rat) = ((m <<< (i - base).toNat : Nat) : Rat) := rfl
    rw [Rat.intCast_neg, this, c]; grind

theorem sum_dval (s t : Bool) (m n : Nat) (i j : Int) : ∃ u q b, (Datum.number s m i).sum (.number t n j) = some (.number u q b) ∧ dval (.number u q b) = dval (.number s m i) + dval (.number t n j) := by
  refine ⟨_, _, _, rfl, ?_⟩
  rw [dval_signed s m i (min i j) (by omega), dval_signed t n j (min i j) (by omega), dval_number]
  generalize signed s m (i - min i j).toNat = x
  generalize signed t n (j - min i j).toNat = y
  have hx : ((x + y : Int) : Rat) = (x : Rat) + (y : Rat) := Rat.intCast_add _ _
  by_cases h0 : x + y = 0
  · rw [if_pos h0, h0]
    have h1 : (x : Rat) + (y : Rat) = 0 := by rw [← hx, h0]; rfl
    have z : ((Int.natAbs 0 : Nat) : Rat) = 0 := rfl
    rw [z]
    have : (if (s && t) = true then -(0 : Rat) else 0) = 0 := by split <;> grind
    rw [this]
    grind
  · rw [if_neg h0]
    by_cases hn : x + y < 0
    · simp only [hn, decide_true, if_true]
      have : ((x + y : Int) : Rat) = -(((x + y).natAbs : Nat) : Rat) := by
        have e : x + y = -(((x + y).natAbs : Nat) : Int) := by omega
        conv => lhs; rw [e, Rat.intCast_neg]
        rfl
      rw [← this, hx]; grind
    · simp only [hn, decide_false, Bool.false_eq_true, if_false]
      have : ((x + y : Int) : Rat) = (((x + y).natAbs : Nat) : Rat) := by
        have e : x + y = (((x + y).natAbs : Nat) : Int) := by omega
        conv => lhs; rw [e]
        rfl
      rw [← this, hx]; grind

theorem opp_dval (d : Datum) : dval d.opposite = -dval d := by
  cases d with
  | number s m e =>
    show dval (.number (!s) m e) = _
    rw [dval_number, dval_number]
    cases s <;> simp <;> grind
  | infinity s => show (0 : Rat) = -0; grind
  | nan s t => show (0 : Rat) = -0; grind

theorem ab_dval (s : Bool) (m : Nat) (p : Int) : ab (dval (.number s m p)) = (m : Rat) * p2 p := by
  have h0 : (0 : Rat) ≤ (m : Rat) := by have := Rat.natCast_le_natCast.2 (Nat.zero_le m); have e : ((0 : Nat) : Rat) = 0 := rfl; rw [e] at this; exact this
  have h1 := Rat.mul_nonneg h0 (Rat.le_of_lt (p2_pos p))
  rw [dval_number]
  cases s
  · simp only [Bool.false_eq_true, if_false]; exact ab_pos h1
  · simp only [if_true]
    have : -(m : Rat) * p2 p = -((m : Rat) * p2 p) := by grind
    rw [this, ab_neg]; exact ab_pos h1

theorem write_rn {u : Bool} {q : Nat} {b : Int} {X : Rat} (hX : dval (.number u q b) = X) (h : ab X ≤ p2 1023) :
    fin (Ieee.double.write (.number u q b)) ∧ Rn X (val (Ieee.double.write (.number u q b))) := by
  rw [← hX, ab_dval] at h
  rw [← hX]
  exact nearest_rn u q b h

theorem add_spec {a b : Nat} (ha : fin a) (hb : fin b) (h : ab (val a + val b) ≤ p2 1023) : ∃ c, floatBits .add .f64 a b = some c ∧ fin c ∧ Rn (val a + val b) (val c) := by
  obtain ⟨s, m, i, ea⟩ := ha
  obtain ⟨t, n, j, eb⟩ := hb
  obtain ⟨u, q, e, h1, h2⟩ := sum_dval s t m n i j
  refine ⟨Ieee.double.write (.number u q e), ?_, write_rn ?_ h⟩
  · show ((Ieee.double.read a).sum (Ieee.double.read b)).map Ieee.double.write = _
    rw [ea, eb, h1]; rfl
  · unfold val; rw [ea, eb]; exact h2

theorem sub_spec {a b : Nat} (ha : fin a) (hb : fin b) (h : ab (val a - val b) ≤ p2 1023) : ∃ c, floatBits .sub .f64 a b = some c ∧ fin c ∧ Rn (val a - val b) (val c) := by
  obtain ⟨s, m, i, ea⟩ := ha
  obtain ⟨t, n, j, eb⟩ := hb
  obtain ⟨u, q, e, h1, h2⟩ := sum_dval s (!t) m n i j
  have ho := opp_dval (.number t n j)
  have ho' : dval (.number (!t) n j) = -dval (.number t n j) := ho
  refine ⟨Ieee.double.write (.number u q e), ?_, write_rn ?_ h⟩
  · show ((Ieee.double.read a).sum (Ieee.double.read b).opposite).map Ieee.double.write = _
    rw [ea, eb]
    show ((Datum.number s m i).sum (.number (!t) n j)).map Ieee.double.write = _
    rw [h1]; rfl
  · unfold val; rw [ea, eb, h2, ho']; grind

theorem mul_spec {a b : Nat} (ha : fin a) (hb : fin b) (h : ab (val a * val b) ≤ p2 1023) : ∃ c, floatBits .mul .f64 a b = some c ∧ fin c ∧ Rn (val a * val b) (val c) := by
  obtain ⟨s, m, i, ea⟩ := ha
  obtain ⟨t, n, j, eb⟩ := hb
  refine ⟨Ieee.double.write (.number (s ^^ t) (m * n) (i + j)), ?_, write_rn ?_ h⟩
  · show ((Ieee.double.read a).product (Ieee.double.read b)).map Ieee.double.write = _
    rw [ea, eb]; rfl
  · unfold val
    rw [ea, eb, dval_number, dval_number, dval_number, p2_add, Rat.natCast_mul]
    cases s <;> cases t <;> simp <;> grind

/-- A quotient: the rounding of a number within 2^-53 of it. -/
theorem div_spec {a b : Nat} (ha : fin a) (hb : fin b) (hb0 : val b ≠ 0) {A : Rat} (hA : A ≤ p2 1022) (h : ab (val a) ≤ A * ab (val b)) :
    ∃ c S, floatBits .quo .f64 a b = some c ∧ fin c ∧ Rn S (val c) ∧ ab (S * val b - val a) ≤ ab (val a) / 9007199254740992 := by
  obtain ⟨s, m, i, ea⟩ := ha
  obtain ⟨t, n, j, eb⟩ := hb
  have hn : n ≠ 0 := by
    intro e
    apply hb0
    unfold val
    rw [eb, e, dval_number]
    have z : ((0 : Nat) : Rat) = 0 := rfl
    rw [z]
    cases t <;> simp <;> grind
  have va : val a = dval (.number s m i) := by unfold val; rw [ea]
  have vb : val b = dval (.number t n j) := by unfold val; rw [eb]
  obtain ⟨more, hmore⟩ : ∃ k, k = 54 + n.log2 - m.log2 := ⟨_, rfl⟩
  obtain ⟨D, hD⟩ : ∃ k, k = m <<< more := ⟨_, rfl⟩
  obtain ⟨M, hM⟩ : ∃ k, k = 2 * (D / n) + (D % n != 0).toNat := ⟨_, rfl⟩
  have hq : (Datum.number s m i).quotient 54 (.number t n j) = some (.number (s ^^ t) M (i - j - more - 1)) := by
    unfold Datum.quotient
    simp only [hn, if_false]
    rw [← hmore, ← hD, ← hM]
  -- whole numbers
  have hdm := Nat.div_add_mod D n
  have hml := Nat.mod_lt D (Nat.pos_of_ne_zero hn)
  have w1 : M * n ≤ 2 * D + n ∧ 2 * D ≤ M * n + n := by
    rw [hM]
    by_cases r0 : D % n = 0
    · have : (D % n != 0).toNat = 0 := by rw [r0]; rfl
      rw [this, Nat.add_zero, Nat.mul_assoc, Nat.mul_comm (D / n) n]
      generalize n * (D / n) = x at *
      omega
    · have : (D % n != 0).toNat = 1 := by have : (D % n != 0) = true := by simpa using r0
                                          rw [this]; rfl
      rw [this, Nat.add_mul, Nat.mul_assoc, Nat.mul_comm (D / n) n, Nat.one_mul]
      generalize n * (D / n) = x at *
      omega
  have w2 : m = 0 ∨ n * 9007199254740992 ≤ D := by
    by_cases hm : m = 0
    · exact .inl hm
    · right
      have l1 : 2 ^ m.log2 ≤ m := Nat.log2_self_le hm
      have l2 : n < 2 ^ (n.log2 + 1) := Nat.lt_log2_self
      have e : 54 + n.log2 ≤ m.log2 + more := by omega
      have a1 : 2 ^ (54 + n.log2) ≤ 2 ^ (m.log2 + more) := Nat.pow_le_pow_right (by decide) e
      rw [Nat.pow_add 2 m.log2 more] at a1
      have a2 : 2 ^ m.log2 * 2 ^ more ≤ m * 2 ^ more := Nat.mul_le_mul_right _ l1
      have a3 : D = m * 2 ^ more := by rw [hD, Nat.shiftLeft_eq]
      have a4 : 2 ^ (54 + n.log2) = 9007199254740992 * 2 ^ (n.log2 + 1) := by rw [show 54 + n.log2 = 53 + (n.log2 + 1) from by omega, Nat.pow_add]
      have a5 : n * 9007199254740992 ≤ 9007199254740992 * 2 ^ (n.log2 + 1) := by rw [Nat.mul_comm]; exact Nat.mul_le_mul_left _ (Nat.le_of_lt l2)
      omega
  -- over the rationals
  obtain ⟨U, hU⟩ : ∃ u, u = p2 (i - more - 1) := ⟨_, rfl⟩
  have hUp : 0 < U := by rw [hU]; exact p2_pos _
  have nR : (0 : Rat) < (n : Rat) := by have := Rat.natCast_lt_natCast.2 (Nat.pos_of_ne_zero hn); have e : ((0 : Nat) : Rat) = 0 := rfl; rw [e] at this; exact this
  have eA : (m : Rat) * p2 i = 2 * (D : Rat) * U := by
    rw [hD, natCast_shl, hU]
    have : p2 (more : Int) * p2 (i - more - 1) * 2 = p2 i := by
      rw [Rat.mul_comm, ← p2_add, ← p2_succ, show ((more : Int) + (i - more - 1)) + 1 = i from by omega]
    grind
  have eS : (M : Rat) * p2 (i - j - more - 1) * ((n : Rat) * p2 j) = (M : Rat) * (n : Rat) * U := by
    have : p2 (i - j - more - 1) * p2 j = U := by rw [hU, ← p2_add, show (i - j - more - 1) + j = i - more - 1 from by omega]
    grind
  have r1 : (M : Rat) * (n : Rat) ≤ 2 * (D : Rat) + (n : Rat) := by
    have := Rat.natCast_le_natCast.2 w1.1
    rw [Rat.natCast_add, Rat.natCast_mul, Rat.natCast_mul] at this
    exact this
  have r2 : 2 * (D : Rat) ≤ (M : Rat) * (n : Rat) + (n : Rat) := by
    have := Rat.natCast_le_natCast.2 w1.2
    rw [Rat.natCast_add, Rat.natCast_mul, Rat.natCast_mul] at this
    exact this
  have r3 : ab ((M : Rat) * (n : Rat) * U - 2 * (D : Rat) * U) ≤ 2 * (D : Rat) * U / 9007199254740992 := by
    rcases w2 with h0 | h0
    · have d0 : D = 0 := by rw [hD, h0]; simp
      have m0 : M = 0 := by rw [hM, d0]; simp
      have z : ((0 : Nat) : Rat) = 0 := rfl
      rw [d0, m0, z]
      rw [ab_le]; grind
    · have r4 : (n : Rat) * 9007199254740992 ≤ (D : Rat) := by
        have := Rat.natCast_le_natCast.2 h0
        rw [Rat.natCast_mul] at this
        exact this
      have b1 := Rat.mul_le_mul_of_nonneg_right r1 (Rat.le_of_lt hUp)
      have b2 := Rat.mul_le_mul_of_nonneg_right r2 (Rat.le_of_lt hUp)
      have b4 := Rat.mul_le_mul_of_nonneg_right r4 (Rat.le_of_lt hUp)
      have b5 := Rat.mul_pos nR hUp
      rw [ab_le]; grind
  -- the number that is rounded
  have hS : dval (.number (s ^^ t) M (i - j - more - 1)) * val b - val a = (if s then -1 else 1) * ((M : Rat) * (n : Rat) * U - 2 * (D : Rat) * U) := by
    rw [va, vb, dval_number, dval_number, dval_number]
    cases s <;> cases t <;> simp <;> grind
  have hab : ab (dval (.number (s ^^ t) M (i - j - more - 1)) * val b - val a) = ab ((M : Rat) * (n : Rat) * U - 2 * (D : Rat) * U) := by
    rw [hS]
    generalize (M : Rat) * (n : Rat) * U - 2 * (D : Rat) * U = Z
    cases s
    · have e : (if false = true then (-1 : Rat) else 1) * Z = Z := by simp
      rw [e]
    · have e : (if true = true then (-1 : Rat) else 1) * Z = -Z := by simp; grind
      rw [e, ab_neg]
  have haa : ab (val a) = 2 * (D : Rat) * U := by rw [va, ab_dval]; exact eA
  have hbb : ab (val b) = (n : Rat) * p2 j := by rw [vb, ab_dval]
  have hfin : ab (dval (.number (s ^^ t) M (i - j - more - 1))) ≤ p2 1023 := by
    rw [ab_dval]
    have hbp : 0 < (n : Rat) * p2 j := Rat.mul_pos nR (p2_pos j)
    have h1 : (M : Rat) * p2 (i - j - more - 1) * ((n : Rat) * p2 j) ≤ 2 * A * ((n : Rat) * p2 j) := by
      rw [eS]
      rw [haa, hbb] at h
      rw [ab_le] at r3
      have : 0 ≤ 2 * (D : Rat) * U := by have := ab_nonneg (val a); rw [haa] at this; exact this
      grind
    have h2 := Rat.le_of_mul_le_mul_right h1 hbp
    have h3 : p2 1023 = 2 * p2 1022 := by
      have h := p2_succ 1022
      have e : (1022 : Int) + 1 = 1023 := by decide
      rw [e] at h
      exact h
    rw [h3]
    grind
  obtain ⟨hw1, hw2⟩ := write_rn (X := dval (.number (s ^^ t) M (i - j - more - 1))) rfl hfin
  refine ⟨Ieee.double.write (.number (s ^^ t) M (i - j - more - 1)), dval (.number (s ^^ t) M (i - j - more - 1)), ?_, hw1, hw2, ?_⟩
  · show ((Ieee.double.read a).quotient 54 (Ieee.double.read b)).map Ieee.double.write = _
    rw [ea, eb, hq]; rfl
  · rw [hab, haa]; exact r3

theorem order_spec {a b : Nat} (ha : fin a) (hb : fin b) : Ieee.double.order a b = some (if val a < val b then .lt else if val a = val b then .eq else .gt) := by
  obtain ⟨s, m, i, ea⟩ := ha
  obtain ⟨t, n, j, eb⟩ := hb
  have va : val a = dval (.number s m i) := by unfold val; rw [ea]
  have vb : val b = dval (.number t n j) := by unfold val; rw [eb]
  unfold Format.order
  rw [ea, eb, va, vb, dval_signed s m i (min i j) (by omega), dval_signed t n j (min i j) (by omega)]
  show some (compare (signed s m (i - min i j).toNat) (signed t n (j - min i j).toNat)) = _
  generalize signed s m (i - min i j).toNat = x
  generalize signed t n (j - min i j).toNat = y
  have hp := p2_pos (min i j)
  rcases Int.lt_trichotomy x y with h | h | h
  · have h1 : (x : Rat) * p2 (min i j) < (y : Rat) * p2 (min i j) := Rat.mul_lt_mul_of_pos_right (Rat.intCast_lt_intCast.2 h) hp
    rw [if_pos h1, Int.compare_eq_lt.2 h]
  · subst h
    rw [if_neg (by grind), if_pos rfl, Int.compare_eq_eq.2 rfl]
  · have h1 : (y : Rat) * p2 (min i j) < (x : Rat) * p2 (min i j) := Rat.mul_lt_mul_of_pos_right (Rat.intCast_lt_intCast.2 h) hp
    rw [if_neg (by grind), if_neg (by grind), Int.compare_eq_gt.2 h]

theorem neg_spec {a : Nat} (ha : fin a) : fin (Op.negFloat .f64 a) ∧ val (Op.negFloat .f64 a) = -val a := by
  obtain ⟨e1, e2, e3, e4, e5⟩ := dbl_facts
  have ee : Op.negFloat .f64 a = a ^^^ 2 ^ 63 := rfl
  have h1 : (a ^^^ 2 ^ 63) % 9223372036854775808 = a % 9223372036854775808 := by
    have : (9223372036854775808 : Nat) = 2 ^ 63 := by decide
    rw [this, Nat.xor_mod_two_pow]; simp
  have h2 : (a ^^^ 2 ^ 63) / 9223372036854775808 % 2 = 1 - a / 9223372036854775808 % 2 := by
    have : (9223372036854775808 : Nat) = 2 ^ 63 := by decide
    rw [this, Nat.xor_div_two_pow]
    have e : (2 : Nat) ^ 63 / 2 ^ 63 = 1 := by decide
    rw [e]
    have h := Nat.xor_mod_two_pow (a := a / 2 ^ 63) (b := 1) (n := 1)
    have e1 : (2 : Nat) ^ 1 = 2 := by decide
    rw [e1] at h
    rw [h]
    rcases Nat.mod_two_eq_zero_or_one (a / 2 ^ 63) with q | q <;> rw [q] <;> rfl
  have hr : Ieee.double.read (Op.negFloat .f64 a) = (Ieee.double.read a).opposite := by
    rw [ee]
    unfold Format.read
    rw [e1, e2, e3, e4, h1, h2]
    have hb : (1 - a / 9223372036854775808 % 2 == 1) = !(a / 9223372036854775808 % 2 == 1) := by
      rcases Nat.mod_two_eq_zero_or_one (a / 9223372036854775808) with h | h <;> rw [h] <;> rfl
    rw [hb]
    dsimp only
    split
    · rfl
    · split
      · rfl
      · split <;> rfl
  obtain ⟨s, m, i, ea⟩ := ha
  refine ⟨⟨!s, m, i, by rw [hr, ea]; rfl⟩, ?_⟩
  unfold val
  rw [hr, opp_dval]

end Go.Proofs.Qxb6604785a
