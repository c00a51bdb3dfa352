/-
  The model's 'nearest' is the rounding 'Rn'; reading a finite word.
-/
import Derived.Test.Qxb6604785aWord
namespace Go.Proofs.Qxb6604785a
open Ieee

theorem cut_even (neg : Bool) (n drop : Nat) :
    2 * n ≤ 2 * (Toward.even.cut neg n drop * 2 ^ drop) + 2 ^ drop ∧ 2 * (Toward.even.cut neg n drop * 2 ^ drop) ≤ 2 * n + 2 ^ drop ∧
    ((2 * n = 2 * (Toward.even.cut neg n drop * 2 ^ drop) + 2 ^ drop ∨ 2 * (Toward.even.cut neg n drop * 2 ^ drop) = 2 * n + 2 ^ drop) → Toward.even.cut neg n drop % 2 = 0) := by
  by_cases hd : drop ≤ n.log2 + 2
  · have hc : Toward.even.cut neg n drop = n / 2 ^ drop + (decide (2 ^ drop < 2 * (n % 2 ^ drop)) || (2 ^ drop == 2 * (n % 2 ^ drop) && n / 2 ^ drop % 2 == 1)).toNat := by
      unfold Toward.cut
      simp only [Nat.min_eq_left hd, Nat.one_shiftLeft]
    rw [hc]
    have hp : 0 < 2 ^ drop := Nat.two_pow_pos _
    have hm := Nat.div_add_mod n (2 ^ drop)
    have hl := Nat.mod_lt n hp
    generalize hq : n / 2 ^ drop = q at *
    generalize n % 2 ^ drop = r at *
    generalize 2 ^ drop = g at *
    have hqg : g * q = q * g := Nat.mul_comm _ _
    rw [hqg] at hm
    by_cases c1 : g < 2 * r
    · simp only [c1, decide_true, Bool.true_or, Bool.toNat_true, Nat.add_mul, Nat.one_mul]
      generalize q * g = h at *
      omega
    · by_cases c2 : g = 2 * r
      · by_cases c3 : q % 2 = 1
        · have c2' : (g == 2 * r) = true := by simpa using c2
          have c3' : (q % 2 == 1) = true := by simpa using c3
          simp only [c1, decide_false, Bool.false_or, c2', c3', Bool.and_self, Bool.toNat_true, Nat.add_mul, Nat.one_mul]
          generalize q * g = h at *
          omega
        · have c3' : (q % 2 == 1) = false := by simpa using c3
          simp only [c1, decide_false, Bool.false_or, c3', Bool.and_false, Bool.toNat_false, Nat.add_zero]
          generalize q * g = h at *
          omega
      · have c2' : (g == 2 * r) = false := by simpa using c2
        simp only [c1, decide_false, Bool.false_or, c2', Bool.false_and, Bool.toNat_false, Nat.add_zero]
        generalize q * g = h at *
        omega
  · have hlt : n < 2 ^ (n.log2 + 1) := Nat.lt_log2_self
    have h2 : 2 ^ (n.log2 + 2) = 2 * 2 ^ (n.log2 + 1) := by rw [Nat.pow_succ 2 (n.log2 + 1)]; omega
    have h3 : 2 ^ (n.log2 + 2) ≤ 2 ^ drop := Nat.pow_le_pow_right (by decide) (by omega)
    have hc : Toward.even.cut neg n drop = 0 := by
      unfold Toward.cut
      simp only [Nat.min_eq_right (show n.log2 + 2 ≤ drop by omega), Nat.one_shiftLeft]
      have e1 : n / 2 ^ (n.log2 + 2) = 0 := Nat.div_eq_of_lt (by omega)
      have e2 : n % 2 ^ (n.log2 + 2) = n := Nat.mod_eq_of_lt (by omega)
      rw [e1, e2]
      have c1 : ¬ 2 ^ (n.log2 + 2) < 2 * n := by omega
      simp [c1]
    rw [hc]
    omega

def dval : Datum → Rat
  | .number s m p => (if s then -(m : Rat) else (m : Rat)) * p2 p
  | _ => 0

theorem dval_number (s : Bool) (m : Nat) (p : Int) : dval (.number s m p) = (if s then -(m : Rat) else (m : Rat)) * p2 p := rfl

def val (b : Nat) : Rat := dval (Ieee.double.read b)
def fin (b : Nat) : Prop := ∃ s m p, Ieee.double.read b = .number s m p

theorem dbl_facts : Ieee.double.infRung = 9218868437227405312 ∧ Ieee.double.signWeight = 9223372036854775808 ∧ Ieee.double.binade = 4503599627370496 ∧ Ieee.double.leastPlace = -1074 ∧ Ieee.double.fractionBits = 52 := by decide

/-- A word of a sign and a rung below infinity, read. -/
theorem read_rung (neg : Bool) (L K : Nat) (h0 : L = 0 ∨ 4503599627370496 ≤ K) (h1 : K ≤ 9007199254740992) (h2 : L * 4503599627370496 + K < 9218868437227405312) :
    fin (Ieee.double.word neg (L * 4503599627370496 + K)) ∧ val (Ieee.double.word neg (L * 4503599627370496 + K)) = (if neg then -(K : Rat) else (K : Rat)) * p2 ((L : Int) - 1074) := by
  obtain ⟨e1, e2, e3, e4, _⟩ := dbl_facts
  have hw : Ieee.double.word neg (L * 4503599627370496 + K) % 9223372036854775808 = L * 4503599627370496 + K := by
    unfold Format.word; rw [e2]; split <;> omega
  have hn : (Ieee.double.word neg (L * 4503599627370496 + K) / 9223372036854775808 % 2 == 1) = neg := by
    unfold Format.word; rw [e2]
    cases neg
    · rw [if_neg (by simp), Nat.div_eq_of_lt (by omega)]; rfl
    · rw [if_pos rfl, show (9223372036854775808 + (L * 4503599627370496 + K)) / 9223372036854775808 = 1 by omega]; rfl
  have hr : Ieee.double.read (Ieee.double.word neg (L * 4503599627370496 + K)) =
      if L * 4503599627370496 + K < 4503599627370496 then .number neg (L * 4503599627370496 + K) (-1074)
      else .number neg (4503599627370496 + (L * 4503599627370496 + K) % 4503599627370496) (-1074 + (((L * 4503599627370496 + K) / 4503599627370496 - 1 : Nat) : Int)) := by
    unfold Format.read
    rw [e1, e2, e3, e4, hw, hn]
    dsimp only
    rw [if_pos h2]
  by_cases hs : L * 4503599627370496 + K < 4503599627370496
  · rw [if_pos hs] at hr
    obtain rfl : L = 0 := by omega
    refine ⟨⟨_, _, _, hr⟩, ?_⟩
    unfold val
    rw [hr]
    simp [dval]
  · rw [if_neg hs] at hr
    refine ⟨⟨_, _, _, hr⟩, ?_⟩
    unfold val
    rw [hr, dval_number]
    by_cases hK : K = 9007199254740992
    · subst hK
      have a1 : (L * 4503599627370496 + 9007199254740992) % 4503599627370496 = 0 := by omega
      have a2 : (L * 4503599627370496 + 9007199254740992) / 4503599627370496 - 1 = L + 1 := by omega
      rw [a1, a2]
      have a3 : -1074 + ((L + 1 : Nat) : Int) = ((L : Int) - 1074) + 1 := by omega
      have b1 : ((4503599627370496 + 0 : Nat) : Rat) = 4503599627370496 := rfl
      have b2 : ((9007199254740992 : Nat) : Rat) = 9007199254740992 := rfl
      rw [a3, p2_succ, b1, b2]
      cases neg <;> simp <;> grind
    · by_cases hK2 : K < 4503599627370496
      · obtain rfl : L = 0 := by omega
        omega
      · have a1 : 4503599627370496 + (L * 4503599627370496 + K) % 4503599627370496 = K := by omega
        have a2 : (L * 4503599627370496 + K) / 4503599627370496 - 1 = L := by omega
        rw [a1, a2]
        have a3 : -1074 + ((L : Nat) : Int) = (L : Int) - 1074 := by omega
        rw [a3]


theorem natCast_shl (m d : Nat) : ((m <<< d : Nat) : Rat) = (m : Rat) * p2 (d : Int) := by
  rw [Nat.shiftLeft_eq, Rat.natCast_mul, p2_nat]

/-- THE MODEL's 'nearest' ROUNDS. -/
theorem nearest_rn (s : Bool) (m : Nat) (p : Int) (hb : (m : Rat) * p2 p ≤ p2 1023) :
    fin (Ieee.double.nearest s m p) ∧ Rn (dval (.number s m p)) (val (Ieee.double.nearest s m p)) := by
  obtain ⟨e1, e2, e3, e4, e5⟩ := dbl_facts
  by_cases hm : m = 0
  · subst hm
    have hn : Ieee.double.nearest s 0 p = Ieee.double.word s (0 * 4503599627370496 + 0) := by unfold Format.nearest; rw [if_pos rfl]
    obtain ⟨f1, f2⟩ := read_rung s 0 0 (.inl rfl) (by omega) (by omega)
    rw [hn]
    have z : ((0 : Nat) : Rat) = 0 := rfl
    have e0 : (if s then -((0 : Nat) : Rat) else ((0 : Nat) : Rat)) = 0 := by rw [z]; cases s <;> simp
    rw [e0] at f2
    have hd : dval (.number s 0 p) = 0 := by rw [dval_number, e0]; grind
    refine ⟨f1, ?_⟩
    rw [f2, hd]
    have hp := p2_pos (-1074)
    have a0 : ab (0 : Rat) = 0 := by unfold ab; grind
    have a1 : (0 : Rat) * p2 (((0 : Nat) : Int) - 1074) = 0 := by grind
    have a2 : (0 : Rat) - 0 = 0 := by grind
    have a3 : ((0 : Int) : Rat) = 0 := rfl
    refine ⟨0, -1074, by decide, by rw [a0]; grind, .inl rfl, by rw [a1, a3]; grind, by rw [a1, a2, a0]; grind, fun _ => rfl⟩
  · have l1 : 2 ^ m.log2 ≤ m := Nat.log2_self_le hm
    have l2 : m < 2 ^ (m.log2 + 1) := Nat.lt_log2_self
    have l1' : p2 (m.log2 : Int) ≤ (m : Rat) := by rw [p2_nat]; exact Rat.natCast_le_natCast.2 l1
    have l2' : (m : Rat) < p2 ((m.log2 : Int) + 1) := by
      rw [show ((m.log2 : Int) + 1) = ((m.log2 + 1 : Nat) : Int) from by omega, p2_nat]
      exact Rat.natCast_lt_natCast.2 l2
    have hpp := p2_pos p
    -- X and its binade
    have x1 : p2 ((m.log2 : Int) + p) ≤ (m : Rat) * p2 p := by rw [p2_add]; exact Rat.mul_le_mul_of_nonneg_right l1' (Rat.le_of_lt hpp)
    have x2 : (m : Rat) * p2 p < p2 ((m.log2 : Int) + 1 + p) := by rw [p2_add]; exact Rat.mul_lt_mul_of_pos_right l2' hpp
    have hexp : (m.log2 : Int) + p ≤ 1023 := by
      by_cases hh : (m.log2 : Int) + p ≤ 1023
      · exact hh
      · exfalso
        have := p2_mono (show (1023 : Int) + 1 ≤ (m.log2 : Int) + p by omega)
        rw [p2_succ] at this
        have := p2_pos 1023
        grind
    generalize hX : (m : Rat) * p2 p = X at *
    obtain ⟨last, hlast⟩ : ∃ l, l = max (p + (m.log2 : Int) - 52) (-1074) := ⟨_, rfl⟩
    have hl0 : -1074 ≤ last := by omega
    obtain ⟨K, hK⟩ : ∃ K, K = Toward.even.cut s (m <<< (p - last).toNat) (last - p).toNat := ⟨_, rfl⟩
    have hn : Ieee.double.nearest s m p = Ieee.double.word s (min ((last + 1074).toNat * 4503599627370496 + K) 9218868437227405312) := by
      unfold Format.nearest
      rw [if_neg hm, e1, e3, e4, e5]
      simp only []
      rw [show (p + (m.log2 : Int) - ((52 : Nat) : Int)) = p + (m.log2 : Int) - 52 from rfl, ← hlast, ← hK, show last - -1074 = last + 1074 from by omega]
    obtain ⟨c1, c2, c3⟩ := cut_even s (m <<< (p - last).toNat) (last - p).toNat
    rw [← hK] at c1 c2 c3
    -- the same over the rationals
    have hp := p2_pos last
    have hpd := p2_pos ((last - p).toNat : Int)
    have eN : ((m <<< (p - last).toNat : Nat) : Rat) * p2 last = X * p2 ((last - p).toNat : Int) := by
      rw [natCast_shl, ← hX]
      have : p2 ((p - last).toNat : Int) * p2 last = p2 p * p2 ((last - p).toNat : Int) := by
        rw [← p2_add, ← p2_add, show (((p - last).toNat : Nat) : Int) + last = p + ((last - p).toNat : Int) from by omega]
      grind
    generalize (m <<< (p - last).toNat : Nat) = N at *
    generalize hD : p2 ((last - p).toNat : Int) = D at *
    have eD : ((2 ^ (last - p).toNat : Nat) : Rat) = D := by rw [← hD, p2_nat]
    have r1 : 2 * (N : Rat) ≤ 2 * ((K : Rat) * D) + D := by
      have := Rat.natCast_le_natCast.2 c1
      rw [Rat.natCast_add, Rat.natCast_mul, Rat.natCast_mul, Rat.natCast_mul, eD] at this
      exact this
    have r2 : 2 * ((K : Rat) * D) ≤ 2 * (N : Rat) + D := by
      have := Rat.natCast_le_natCast.2 c2
      rw [Rat.natCast_add, Rat.natCast_mul, Rat.natCast_mul, Rat.natCast_mul, eD] at this
      exact this
    have q1 : X ≤ (K : Rat) * p2 last + p2 last / 2 := by
      have h := Rat.mul_le_mul_of_nonneg_right r1 (Rat.le_of_lt hp)
      exact Rat.le_of_mul_le_mul_right (c := D) (by grind) hpd
    have q2 : (K : Rat) * p2 last ≤ X + p2 last / 2 := by
      have h := Rat.mul_le_mul_of_nonneg_right r2 (Rat.le_of_lt hp)
      exact Rat.le_of_mul_le_mul_right (c := D) (by grind) hpd
    have tie : ab ((K : Rat) * p2 last - X) = p2 last / 2 → K % 2 = 0 := by
      intro h
      apply c3
      have hh : X = (K : Rat) * p2 last + p2 last / 2 ∨ (K : Rat) * p2 last = X + p2 last / 2 := by unfold ab at h; grind
      rcases hh with hh | hh
      · left
        have : (2 * (N : Rat)) * p2 last = (2 * ((K : Rat) * D) + D) * p2 last := by grind
        have h2 : 2 * (N : Rat) = 2 * ((K : Rat) * D) + D := by
          have a1 : 2 * (N : Rat) ≤ 2 * ((K : Rat) * D) + D := r1
          have a2 : 2 * ((K : Rat) * D) + D ≤ 2 * (N : Rat) := Rat.le_of_mul_le_mul_right (c := p2 last) (by grind) hp
          grind
        have h3 : ((2 * N : Nat) : Rat) = ((2 * (K * 2 ^ (last - p).toNat) + 2 ^ (last - p).toNat : Nat) : Rat) := by
          rw [Rat.natCast_add, Rat.natCast_mul, Rat.natCast_mul, Rat.natCast_mul, eD]; exact h2
        exact Rat.natCast_inj.1 h3
      · right
        have : (2 * ((K : Rat) * D)) * p2 last = (2 * (N : Rat) + D) * p2 last := by grind
        have h2 : 2 * ((K : Rat) * D) = 2 * (N : Rat) + D := by
          have a1 : 2 * ((K : Rat) * D) ≤ 2 * (N : Rat) + D := r2
          have a2 : 2 * (N : Rat) + D ≤ 2 * ((K : Rat) * D) := Rat.le_of_mul_le_mul_right (c := p2 last) (by grind) hp
          grind
        have h3 : ((2 * (K * 2 ^ (last - p).toNat) : Nat) : Rat) = ((2 * N + 2 ^ (last - p).toNat : Nat) : Rat) := by
          rw [Rat.natCast_add, Rat.natCast_mul, Rat.natCast_mul, Rat.natCast_mul, eD]; exact h2
        exact Rat.natCast_inj.1 h3
    -- bounds on X in units of the last place
    have xu : X < 9007199254740992 * p2 last := by
      rw [← p2_53]
      have := p2_mono (show (m.log2 : Int) + 1 + p ≤ 53 + last by omega)
      grind
    have xl : last = -1074 ∨ 4503599627370496 * p2 last ≤ X := by
      by_cases hh : last = -1074
      · exact .inl hh
      · right
        rw [← p2_52, show 52 + last = (m.log2 : Int) + p from by omega]
        exact x1
    have x0 : 0 ≤ X := by have := p2_pos ((m.log2 : Int) + p); grind
    have k1 : K ≤ 9007199254740992 := by
      have : (K : Rat) < ((9007199254740993 : Nat) : Rat) := by
        have c : ((9007199254740993 : Nat) : Rat) = 9007199254740993 := rfl
        rw [c]
        exact Rat.lt_of_mul_lt_mul_right (c := p2 last) (by grind) (Rat.le_of_lt hp)
      have := Rat.natCast_lt_natCast.1 this
      omega
    have k2 : (last + 1074).toNat = 0 ∨ 4503599627370496 ≤ K := by
      rcases xl with hh | hh
      · left; omega
      · right
        have : ((4503599627370495 : Nat) : Rat) < (K : Rat) := by
          have c : ((4503599627370495 : Nat) : Rat) = 4503599627370495 := rfl
          rw [c]
          exact Rat.lt_of_mul_lt_mul_right (c := p2 last) (by grind) (Rat.le_of_lt hp)
        have := Rat.natCast_lt_natCast.1 this
        omega
    have k3 : (last + 1074).toNat * 4503599627370496 + K < 9218868437227405312 := by
      by_cases hh : last ≤ 970
      · omega
      · -- X is 2^1023
        have hX1 : X ≤ 4503599627370496 * p2 last := by
          rw [← p2_52]
          have := p2_mono (show (1023 : Int) ≤ 52 + last by omega)
          grind
        have : (K : Rat) < ((4503599627370497 : Nat) : Rat) := by
          have c : ((4503599627370497 : Nat) : Rat) = 4503599627370497 := rfl
          rw [c]
          exact Rat.lt_of_mul_lt_mul_right (c := p2 last) (by grind) (Rat.le_of_lt hp)
        have := Rat.natCast_lt_natCast.1 this
        omega
    rw [hn, Nat.min_eq_left (by omega)]
    obtain ⟨f1, f2⟩ := read_rung s (last + 1074).toNat K k2 k1 k3
    rw [show (((last + 1074).toNat : Nat) : Int) - 1074 = last from by omega] at f2
    refine ⟨f1, ?_⟩
    rw [f2]
    have core : Rn X ((K : Rat) * p2 last) := by
      have ec : ((K : Nat) : Rat) = (((K : Nat) : Int) : Rat) := rfl
      refine ⟨(K : Int), last, hl0, by rw [ab_pos x0]; exact xu, by rw [ab_pos x0]; exact xl, by rw [ec], by rw [ab_le]; grind, fun h => ?_⟩
      have := tie h
      omega
    rw [dval_number]
    cases s
    · simp only [Bool.false_eq_true, if_false]
      rw [hX]
      exact core
    · simp only [if_true]
      have := core.neg
      have e1 : -(m : Rat) * p2 p = -X := by rw [← hX]; grind
      have e2 : -(K : Rat) * p2 last = -((K : Rat) * p2 last) := by grind
      rw [e1, e2]
      exact this

end Go.Proofs.Qxb6604785a
