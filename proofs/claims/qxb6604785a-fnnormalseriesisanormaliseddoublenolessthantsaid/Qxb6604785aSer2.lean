/-
  The series over the rationals: bounds on its terms, its growth with t, and what a cut tail can cost.
-/
import Derived.Test.Qxb6604785aSer
namespace Go.Proofs.Qxb6604785a

def lim : Nat := 2 ^ 660

/-- Upper bounds of the terms at t no greater than 30, one after another. -/
def chk : Nat → Nat → Nat → Bool
  | 0, _, _ => true
  | f + 1, n, v => Nat.ble v lim && chk f (n + 1) (v * 900 / (2 * n + 3) + 1)

theorem chk_ok : chk 1001 0 30 = true := by decide +kernel

theorem chk_sound {t : Rat} (ht : 0 < t) (h9 : t * t ≤ 900) : ∀ (f n v : Nat), chk f n v = true → T t n ≤ (v : Rat) → ∀ j, j < f → T t (n + j) ≤ ((lim : Nat) : Rat) := by
  intro f
  induction f with
  | zero => intro n v _ _ j hj; omega
  | succ f ih =>
    intro n v hc hv j hj
    unfold chk at hc
    simp only [Bool.and_eq_true] at hc
    have hv2 : v ≤ lim := Nat.le_of_ble_eq_true hc.1
    cases j with
    | zero =>
      have := Rat.natCast_le_natCast.2 hv2
      rw [Nat.add_zero]
      exact Rat.le_trans hv this
    | succ j =>
      rw [show n + (j + 1) = (n + 1) + j from by omega]
      refine ih (n + 1) _ hc.2 ?_ j (by omega)
      have hn0 := natR n
      have hT := T_succ t n
      have Tp := T_pos ht n
      have h1 : T t n * (t * t) ≤ (v : Rat) * 900 := le_mul hv h9 (Rat.le_of_lt Tp) (by decide)
      have h2 : v * 900 < (2 * n + 3) * (v * 900 / (2 * n + 3) + 1) := by
        have h0 : 0 < 2 * n + 3 := by omega
        have := Nat.lt_mul_div_succ (v * 900) h0
        exact this
      have h3 : ((v * 900 : Nat) : Rat) ≤ (((2 * n + 3) * (v * 900 / (2 * n + 3) + 1) : Nat) : Rat) := Rat.natCast_le_natCast.2 (Nat.le_of_lt h2)
      rw [Rat.natCast_mul, Rat.natCast_mul] at h3
      have e1 : ((2 * n + 3 : Nat) : Rat) = 2 * (n : Rat) + 3 := by rw [Rat.natCast_add, Rat.natCast_mul]; rfl
      have e2 : ((900 : Nat) : Rat) = 900 := rfl
      rw [e1, e2] at h3
      generalize ((v * 900 / (2 * n + 3) + 1 : Nat) : Rat) = B at *
      refine Rat.le_of_mul_le_mul_right (c := 2 * (n : Rat) + 3) ?_ (by grind)
      rw [hT]
      grind

theorem T_upper {t : Rat} (ht : 0 < t) (h30 : t ≤ 30) {n : Nat} (hn : n ≤ 1000) : T t n ≤ ((lim : Nat) : Rat) := by
  have h9 : t * t ≤ 900 := by
    have := le_mul h30 h30 (Rat.le_of_lt ht) (by decide)
    grind
  have := chk_sound ht h9 1001 0 30 chk_ok (by show t ≤ ((30 : Nat) : Rat); exact h30) n (by omega)
  rw [Nat.zero_add] at this
  exact this

theorem F_upper {t : Rat} (ht : 0 < t) (h30 : t ≤ 30) {n : Nat} (hn : n ≤ 1000) : F t n ≤ ((n : Rat) + 1) * ((lim : Nat) : Rat) := by
  induction n with
  | zero =>
    have := T_upper ht h30 (n := 0) (by omega)
    have e : ((0 : Nat) : Rat) = 0 := rfl
    rw [e]
    show t ≤ _
    have h : T t 0 = t := rfl
    rw [h] at this
    generalize ((lim : Nat) : Rat) = B at *
    grind
  | succ n ih =>
    have h1 := ih (by omega)
    have h2 := T_upper ht h30 hn
    have e : F t (n + 1) = F t n + T t (n + 1) := rfl
    rw [e, natR_succ]
    generalize ((lim : Nat) : Rat) = B at *
    grind

theorem T_half {t : Rat} (ht : 0 < t) (h9 : t * t ≤ 900) {n : Nat} (hn : 900 ≤ n) : 2 * T t (n + 1) ≤ T t n := by
  have hT := T_succ t n
  have Tp := T_pos ht n
  have Tp' := T_pos ht (n + 1)
  have hn' : (900 : Rat) ≤ (n : Rat) := by
    have := Rat.natCast_le_natCast.2 hn
    have e : ((900 : Nat) : Rat) = 900 := rfl
    rw [e] at this
    exact this
  have h1 := Rat.mul_le_mul_of_nonneg_left h9 (Rat.le_of_lt Tp)
  have h2 := Rat.mul_le_mul_of_nonneg_left (show (1800 : Rat) ≤ 2 * (n : Rat) + 3 by grind) (Rat.le_of_lt Tp')
  grind

theorem T_decay {t : Rat} (ht : 0 < t) (h9 : t * t ≤ 900) (j : Nat) : T t (900 + j) * ((2 ^ j : Nat) : Rat) ≤ T t 900 := by
  induction j with
  | zero => have e : ((2 ^ 0 : Nat) : Rat) = 1 := rfl
            rw [e, Nat.add_zero]; grind
  | succ j ih =>
    have h := T_half ht h9 (n := 900 + j) (by omega)
    have e : ((2 ^ (j + 1) : Nat) : Rat) = 2 * ((2 ^ j : Nat) : Rat) := by
      rw [Nat.pow_succ, Rat.natCast_mul]
      have : ((2 : Nat) : Rat) = 2 := rfl
      rw [this]; grind
    rw [e, show 900 + (j + 1) = (900 + j) + 1 from by omega]
    have hp := natR (2 ^ j)
    have := Rat.mul_le_mul_of_nonneg_right h hp
    grind

theorem F_step {t : Rat} (ht : 0 < t) (n : Nat) : F t n ≤ F t (n + 1) := by
  have := T_pos ht (n + 1)
  have e : F t (n + 1) = F t n + T t (n + 1) := rfl
  rw [e]; grind

theorem F_mono {t : Rat} (ht : 0 < t) {n m : Nat} (h : n ≤ m) : F t n ≤ F t m := by
  obtain ⟨k, rfl⟩ := Nat.le.dest h
  induction k with
  | zero => exact Rat.le_refl
  | succ k ih => exact Rat.le_trans (ih (by omega)) (F_step ht (n + k))

/-- By the 985th term the series has all but ended. -/
theorem T_end {t : Rat} (ht : 0 < t) (h9 : t * t ≤ 900) : T t 985 ≤ F t 985 / 38685626227668133590597632 := by
  have h1 := T_decay ht h9 85
  have e : ((2 ^ 85 : Nat) : Rat) = 38685626227668133590597632 := by decide
  rw [e] at h1
  have h2 := (T_le_F ht 900).1
  have h3 := F_mono ht (show 900 ≤ 985 by decide)
  have h4 : T t (900 + 85) = T t 985 := rfl
  rw [h4] at h1
  grind

theorem T_scale {s t : Rat} (hs : 0 < s) (hst : s ≤ t) (n : Nat) : t * T s n ≤ s * T t n := by
  have ht : 0 < t := by grind
  induction n with
  | zero => show t * s ≤ s * t; grind
  | succ n ih =>
    have hn := natR n
    have h1 := T_succ s n
    have h2 := T_succ t n
    have p1 := T_pos hs n
    have q1 : s * s ≤ t * t := le_mul hst hst (Rat.le_of_lt hs) (Rat.le_of_lt ht)
    have q2 : (t * T s n) * (s * s) ≤ (s * T t n) * (t * t) := le_mul ih q1 (Rat.le_of_lt (Rat.mul_pos ht p1)) (Rat.le_of_lt (Rat.mul_pos ht ht))
    refine Rat.le_of_mul_le_mul_right (c := 2 * (n : Rat) + 3) ?_ (by grind)
    have e1 : t * T s (n + 1) * (2 * (n : Rat) + 3) = (t * T s n) * (s * s) := by
      have : t * T s (n + 1) * (2 * (n : Rat) + 3) = t * (T s (n + 1) * (2 * (n : Rat) + 3)) := by grind
      rw [this, h1]; grind
    have e2 : s * T t (n + 1) * (2 * (n : Rat) + 3) = (s * T t n) * (t * t) := by
      have : s * T t (n + 1) * (2 * (n : Rat) + 3) = s * (T t (n + 1) * (2 * (n : Rat) + 3)) := by grind
      rw [this, h2]; grind
    rw [e1, e2]
    exact q2

theorem F_scale {s t : Rat} (hs : 0 < s) (hst : s ≤ t) (n : Nat) : t * F s n ≤ s * F t n := by
  induction n with
  | zero => show t * s ≤ s * t; grind
  | succ n ih =>
    have := T_scale hs hst (n + 1)
    have e1 : F s (n + 1) = F s n + T s (n + 1) := rfl
    have e2 : F t (n + 1) = F t n + T t (n + 1) := rfl
    rw [e1, e2]
    grind

theorem T_le_T {s t : Rat} (hs : 0 < s) (hst : s ≤ t) (n : Nat) : T s n ≤ T t n := by
  have h := T_scale hs hst n
  have p := T_pos hs n
  have ht : 0 < t := by grind
  have h2 := Rat.mul_le_mul_of_nonneg_right hst (Rat.le_of_lt (T_pos ht n))
  exact Rat.le_of_mul_le_mul_left (c := t) (by grind) ht

/-- While the terms grow the sum is at most so many of the last. -/
theorem F_grow {t : Rat} (ht : 0 < t) (K : Nat) (h : 2 * (K : Rat) + 3 ≤ t * t) : F t K ≤ ((K : Rat) + 1) * T t K := by
  have key : ∀ i, i ≤ K → F t i ≤ ((i : Rat) + 1) * T t i := by
    intro i
    induction i with
    | zero => intro _; show t ≤ (((0 : Nat) : Rat) + 1) * t; have e : ((0 : Nat) : Rat) = 0 := rfl; rw [e]; grind
    | succ i ih =>
      intro hi
      have h1 := ih (by omega)
      have hT := T_succ t i
      have p := T_pos ht i
      have p' := T_pos ht (i + 1)
      have hi' : (i : Rat) ≤ (K : Rat) := Rat.natCast_le_natCast.2 (by omega)
      have hi0 := natR i
      have h2 : T t i ≤ T t (i + 1) := by
        have a1 := Rat.mul_le_mul_of_nonneg_left (show 2 * (i : Rat) + 3 ≤ t * t by grind) (Rat.le_of_lt p)
        rw [← hT] at a1
        exact Rat.le_of_mul_le_mul_right a1 (by grind)
      have e : F t (i + 1) = F t i + T t (i + 1) := rfl
      have a2 := Rat.mul_le_mul_of_nonneg_left h2 (show (0 : Rat) ≤ (i : Rat) + 1 by grind)
      rw [e, natR_succ]
      grind
  exact key K (Nat.le_refl _)

/-- What the smaller argument's series may still gain behind the place where the greater's has ended. -/
theorem tail_small {s t : Rat} (hs : 0 < s) (hst : s ≤ t) {K : Nat} (hK : K ≤ 1000) (hend : T t K ≤ F t K / 1048576) (N : Nat) (hN : K ≤ N) (hN2 : N ≤ 1000) : F s N ≤ F s K + ((N : Rat) - (K : Rat)) * T t K := by
  have ht : 0 < t := by grind
  have hKR : (K : Rat) ≤ 1000 := by
    have := Rat.natCast_le_natCast.2 hK
    have e : ((1000 : Nat) : Rat) = 1000 := rfl
    rw [e] at this
    exact this
  have pK := T_pos ht K
  have hq : t * t ≤ 2 * (K : Rat) + 3 := by
    by_cases hh : 2 * (K : Rat) + 3 ≤ t * t
    · exfalso
      have h1 := F_grow ht K hh
      have h2 := Rat.mul_le_mul_of_nonneg_right (show (K : Rat) + 1 ≤ 1001 by grind) (Rat.le_of_lt pK)
      grind
    · grind
  have down : ∀ j, T t (K + j) ≤ T t K := by
    intro j
    induction j with
    | zero => rw [Nat.add_zero]; grind
    | succ j ih =>
      have hT := T_succ t (K + j)
      have p := T_pos ht (K + j)
      have hj : (K : Rat) ≤ ((K + j : Nat) : Rat) := Rat.natCast_le_natCast.2 (by omega)
      have hK0 := natR K
      have a1 := Rat.mul_le_mul_of_nonneg_left (show t * t ≤ 2 * ((K + j : Nat) : Rat) + 3 by grind) (Rat.le_of_lt p)
      rw [← hT] at a1
      have := Rat.le_of_mul_le_mul_right a1 (by grind)
      rw [show K + (j + 1) = K + j + 1 from by omega]
      grind
  obtain ⟨d, rfl⟩ := Nat.le.dest hN
  clear hN hN2
  induction d with
  | zero => rw [Nat.add_zero]; grind
  | succ d ih =>
    have h1 := down (d + 1)
    have h2 := T_le_T hs hst (K + d + 1)
    have e : F s (K + (d + 1)) = F s (K + d) + T s (K + d + 1) := rfl
    have e2 : ((K + (d + 1) : Nat) : Rat) = ((K + d : Nat) : Rat) + 1 := by rw [show K + (d + 1) = (K + d) + 1 from by omega, natR_succ]
    rw [e, e2]
    rw [show K + (d + 1) = K + d + 1 from by omega] at h1
    grind

theorem rep_gap {s t : Rat} (rs : Rep s) (rt : Rep t) (hs : tiny ≤ s) (hst : s < t) : s / 9007199254740992 ≤ t - s := by
  have t0 := tiny_pos
  obtain ⟨k, hk, k1, k2⟩ := unit_of hs
  have hu := p2_pos k
  obtain ⟨zs, hzs⟩ := rs.mult (k := k) (by rw [ab_pos (by grind)]; exact k1)
  obtain ⟨zt, hzt⟩ := rt.mult (k := k) (by rw [ab_pos (by grind)]; grind)
  have hlt : zs < zt := Rat.intCast_lt_intCast.1 (Rat.lt_of_mul_lt_mul_right (c := p2 k) (by grind) (Rat.le_of_lt hu))
  have h1 : ((zs + 1 : Int) : Rat) ≤ (zt : Rat) := Rat.intCast_le_intCast.2 (by omega)
  rw [Rat.intCast_add] at h1
  have c : ((1 : Int) : Rat) = 1 := rfl
  rw [c] at h1
  have h2 := Rat.mul_le_mul_of_nonneg_right h1 (Rat.le_of_lt hu)
  grind

/-- The sums that the loop ends with stand as their arguments do. -/
theorem sums_less {s t : Rat} {Ks Kt : Nat} {a1 b1 c1 d1 a2 b2 c2 d2 : Rat} (rs : Rep s) (rt : Rep t) (hs : tiny ≤ s) (hst : s < t) (I1 : Keeps s Ks a1 b1 c1 d1) (I2 : Keeps t Kt a2 b2 c2 d2) (hKs : Ks ≤ 1000) (hKt : Kt ≤ 1000)
    (hend : T t Kt ≤ F t Kt / 1180591620717411303424) : c1 + d1 < c2 + d2 := by
  have t0 := tiny_pos
  have s0 : 0 < s := by grind
  have tp : 0 < t := by grind
  have gap := rep_gap rs rt hs hst
  have e1 := I1.es
  have e2 := I2.es
  have n1 : (Ks : Rat) ≤ 1000 := by
    have := Rat.natCast_le_natCast.2 hKs
    have e : ((1000 : Nat) : Rat) = 1000 := rfl
    rw [e] at this
    exact this
  have n2 : (Kt : Rat) ≤ 1000 := by
    have := Rat.natCast_le_natCast.2 hKt
    have e : ((1000 : Nat) : Rat) = 1000 := rfl
    rw [e] at this
    exact this
  have Fs := (T_le_F s0 Ks).2
  have Ft := (T_le_F tp Kt).2
  have FsKt := (T_le_F s0 Kt).2
  have b1 := Rat.mul_le_mul_of_nonneg_right (show 2 * ((Ks : Rat) / 295147905179352825856) ≤ 1 / 144115188075855872 by grind) (show 0 ≤ F s Ks by grind)
  have b2 := Rat.mul_le_mul_of_nonneg_right (show 2 * ((Kt : Rat) / 295147905179352825856) ≤ 1 / 144115188075855872 by grind) (show 0 ≤ F t Kt by grind)
  rw [ab_le] at e1 e2
  -- F s Ks against F t Kt
  have main : F s Ks ≤ F s Kt + F t Kt / 1000000000000000000 := by
    by_cases hh : Ks ≤ Kt
    · have := F_mono s0 hh
      grind
    · have h1 := tail_small s0 (Rat.le_of_lt hst) hKt (by grind) Ks (by omega) hKs
      have h2 := Rat.mul_le_mul_of_nonneg_right (show (Ks : Rat) - (Kt : Rat) ≤ 1000 by have := natR Kt; grind) (Rat.le_of_lt (T_pos tp Kt))
      grind
  have sc := F_scale s0 (Rat.le_of_lt hst) Kt
  -- F t Kt is greater than F s Kt by one part in 2^53
  have gr : F s Kt * (9007199254740993 / 9007199254740992) ≤ F t Kt := by
    have g1 : s * (9007199254740993 / 9007199254740992) ≤ t := by grind
    have g2 := Rat.mul_le_mul_of_nonneg_right g1 (show 0 ≤ F s Kt by grind)
    refine Rat.le_of_mul_le_mul_left (c := s) ?_ s0
    grind
  generalize F s Ks = X at *
  generalize F s Kt = Y at *
  generalize F t Kt = Z at *
  grind

end Go.Proofs.Qxb6604785a
