/-
  The two laws on normalSeries, walked.
-/
import Derived.Test.Qxb6604785aNsWalk
import Derived.Test.Qxb6604785aNsMain
namespace Go.Proofs.Qxb6604785a
open Go.RowKit

theorem r30 : Ieee.double.read 4629137466983448576 = .number false 8444249301319680 (-48) := by decide
theorem r0 : Ieee.double.read 0 = .number false 0 (-1074) := by decide

theorem w30_fin : fin 4629137466983448576 ∧ val 4629137466983448576 = 30 := by
  refine ⟨⟨_, _, _, r30⟩, ?_⟩
  unfold val
  rw [r30, dval_number]
  have h : p2 (-48) * 281474976710656 = 1 := by
    have h48 : p2 48 = 281474976710656 := by have := p2_nat 48; simpa using this
    have := p2_add (-48) 48
    rw [← h48, ← this]; exact p2_zero
  have c : ((8444249301319680 : Nat) : Rat) = 8444249301319680 := rfl
  simp only [Bool.false_eq_true, if_false]
  rw [c]; grind

/-- What the first law's guard tells. -/
theorem guard5 {t : Nat} (h1 : Ieee.double.order t 0 = some .gt) (h2 : Ieee.double.order t 4629137466983448576 = some .lt ∨ Ieee.double.order t 4629137466983448576 = some .eq) : fin t ∧ 0 < val t ∧ val t ≤ 30 := by
  have ft : fin t := by
    have h1' := h1
    have h2' := h2
    unfold Ieee.Format.order at h1' h2'
    rw [r0] at h1'
    rw [r30] at h2'
    cases hr : Ieee.double.read t with
    | nan => rw [hr] at h1'; simp [Ieee.Datum.order] at h1'
    | infinity s => rw [hr] at h1' h2'; cases s <;> simp [Ieee.Datum.order] at h1' h2'
    | number s m p => exact ⟨s, m, p, hr⟩
  refine ⟨ft, ?_⟩
  rw [order_spec ft w0_fin.1, w0_fin.2] at h1
  rw [order_spec ft w30_fin.1, w30_fin.2] at h2
  constructor
  · by_cases a : val t < 0
    · simp [a] at h1
    · by_cases b : val t = 0
      · simp [b] at h1
      · grind
  · by_cases a : val t < 30
    · grind
    · by_cases b : val t = 30
      · grind
      · simp [a, b] at h2

theorem guard6 {s t : Nat} (h1 : Ieee.double.order s 0 = some .gt) (h2 : Ieee.double.order t 4629137466983448576 = some .lt ∨ Ieee.double.order t 4629137466983448576 = some .eq) (h3 : Ieee.double.order s t = some .lt) :
    fin s ∧ fin t ∧ 0 < val s ∧ val s < val t ∧ val t ≤ 30 := by
  obtain ⟨fs, ft⟩ : fin s ∧ fin t := by
    have h1' := h1
    have h2' := h2
    have h3' := h3
    unfold Ieee.Format.order at h1' h2' h3'
    rw [r0] at h1'
    rw [r30] at h2'
    cases hs : Ieee.double.read s with
    | nan => rw [hs] at h1'; simp [Ieee.Datum.order] at h1'
    | infinity a =>
      exfalso
      rw [hs] at h1' h3'
      cases ht : Ieee.double.read t with
      | nan => rw [ht] at h2'; simp [Ieee.Datum.order] at h2'
      | infinity b => rw [ht] at h2' h3'; cases a <;> cases b <;> simp [Ieee.Datum.order] at h1' h2' h3' <;> revert h3' <;> decide
      | number b m p => rw [ht] at h3'; cases a <;> simp [Ieee.Datum.order] at h1' h3'
    | number a m p =>
      refine ⟨⟨a, m, p, hs⟩, ?_⟩
      rw [hs] at h3'
      cases ht : Ieee.double.read t with
      | nan => rw [ht] at h2'; simp [Ieee.Datum.order] at h2'
      | infinity b => rw [ht] at h2' h3'; cases b <;> simp [Ieee.Datum.order] at h2' h3'
      | number b m p => exact ⟨b, m, p, ht⟩
  refine ⟨fs, ft, ?_⟩
  rw [order_spec fs w0_fin.1, w0_fin.2] at h1
  rw [order_spec ft w30_fin.1, w30_fin.2] at h2
  rw [order_spec fs ft] at h3
  refine ⟨?_, ?_, ?_⟩
  · by_cases a : val s < 0
    · simp [a] at h1
    · by_cases b : val s = 0
      · simp [b] at h1
      · grind
  · by_cases a : val s < val t
    · exact a
    · by_cases b : val s = val t <;> simp [a, b] at h3
  · by_cases a : val t < 30
    · grind
    · by_cases b : val t = 30
      · grind
      · simp [a, b] at h2

theorem zz_series {t : Nat} (ft : fin t) (t0 : 0 < val t) (h30 : val t ≤ 30) (w : World) :
    Calls Try.prog 18 #[.float .f64 t] w fun e' w' => (∃ h l, EndN (val t) h l ∧ e' = .returned (.tuple #[.float .f64 h, .float .f64 l])) ∧ Below w.heap.size w w' := by
  obtain ⟨qh, ql, f, TP, G⟩ := series ft t0 h30
  exact zz_walk t _ (fun w => ns_walk t qh ql f _ TP G w) w

theorem order_eq {a b : Nat} (ha : fin a) (hb : fin b) (h : val a = val b) : FloatKind.f64.format.order a b = some .eq := by
  show Ieee.double.order a b = _
  rw [order_spec ha hb, if_neg (by grind), if_pos h]
theorem order_lt {a b : Nat} (ha : fin a) (hb : fin b) (h : val a < val b) : FloatKind.f64.format.order a b = some .lt := by
  show Ieee.double.order a b = _
  rw [order_spec ha hb, if_pos h]
theorem order_gt {a b : Nat} (ha : fin a) (hb : fin b) (h : val b < val a) : FloatKind.f64.format.order a b = some .gt := by
  show Ieee.double.order a b = _
  rw [order_spec ha hb, if_neg (by grind), if_neg (by grind)]

theorem leq_or {o : Option Ordering} (h : (!o == some Ordering.lt) = false ∨ (!o == some Ordering.eq) = false) : o = some .lt ∨ o = some .eq := by
  rcases h with h | h
  · left; simpa using h
  · right; simpa using h

set_option maxHeartbeats 1000000 in
theorem law5_walk (t : Nat) (w : World) :
    Calls Try.prog 5 #[.float .f64 t] w fun e' w' => e' = .returned (.bool true) ∧ Below w.heap.size w w' := by
  go_enter Try.func5, Try.ntmps5
  go_wp2_with fail
  · go_ret
    exact ⟨rfl, Below.refl _ _⟩
  · have h1 := ‹FloatKind.f64.format.order t 0 = some Ordering.gt›
    have h2 := leq_or ‹(!FloatKind.f64.format.order t 4629137466983448576 == some Ordering.lt) = false ∨ (!FloatKind.f64.format.order t 4629137466983448576 == some Ordering.eq) = false›
    obtain ⟨ft, t0, t30⟩ := guard5 h1 h2
    refine Calls.mono (zz_series ft t0 t30 _) ?_
    rintro e1 W1 ⟨⟨h, l, hE, rfl⟩, hb⟩
    obtain ⟨z1, s1, f1, v1⟩ := self_sub hE.1
    obtain ⟨z2, s2, f2, v2⟩ := self_sub hE.2.1
    obtain ⟨r, s3, f3, v3⟩ := end_normal hE (end_bound t0 t30 hE)
    have R1 := fun w => run_float_arith (P := Try.prog) w .sub 22 .f64 h h z1 s1
    have R2 := fun w => run_float_arith (P := Try.prog) w .sub 22 .f64 l l z2 s2
    have R3 := fun w => run_float_arith (P := Try.prog) w .add 22 .f64 h l r s3
    have o1 := order_eq f1 w0_fin.1 (by rw [v1, w0_fin.2])
    have o2 := order_eq f2 w0_fin.1 (by rw [v2, w0_fin.2])
    have o3 := order_eq f3 hE.1 v3
    have o4 : FloatKind.f64.format.order h t = some .eq ∨ FloatKind.f64.format.order h t = some .gt := by
      by_cases he : val h = val t
      · exact .inl (order_eq hE.1 ft he)
      · exact .inr (order_gt hE.1 ft (by have := hE.2.2.2.1; grind))
    clear s1 s2 s3 f1 f2 f3 v1 v2 v3 hE h1 h2 ft t0 t30
    rcases o4 with o4 | o4
    · go_wp2
      go_ret
      exact ⟨rfl, hb⟩
    · go_wp2
      go_ret
      exact ⟨rfl, hb⟩
  · go_ret
    exact ⟨rfl, Below.refl _ _⟩

set_option maxHeartbeats 1000000 in
theorem law6_walk (s t : Nat) (w : World) :
    Calls Try.prog 6 #[.float .f64 s, .float .f64 t] w fun e' w' => e' = .returned (.bool true) ∧ Below w.heap.size w w' := by
  go_enter Try.func6, Try.ntmps6
  go_wp2_with fail
  · go_ret
    exact ⟨rfl, Below.refl _ _⟩
  · have h1 := ‹FloatKind.f64.format.order s 0 = some Ordering.gt›
    have h3 := ‹FloatKind.f64.format.order s t = some Ordering.lt›
    have h2 := leq_or ‹(!FloatKind.f64.format.order t 4629137466983448576 == some Ordering.lt) = false ∨ (!FloatKind.f64.format.order t 4629137466983448576 == some Ordering.eq) = false›
    obtain ⟨fs, ft, s0, st, t30⟩ := guard6 h1 h2 h3
    have KT : Hid _ := zz_series ft (by grind) t30
    refine Calls.mono (zz_series fs s0 (by grind) _) ?_
    rintro e1 W1 ⟨⟨h1', l1', hE1, rfl⟩, hb⟩
    have HE1 : Hid _ := hE1
    have ZZ : Hid _ := And.intro fs (And.intro ft st)
    clear hE1 h1 h2 h3 fs ft s0 st t30
    go_wp2_with fail
    refine Calls.mono (KT.out _) ?_
    rintro e1 W2 ⟨⟨h2', l2', hE2, rfl⟩, hb2⟩
    have hE1 := HE1.out
    obtain ⟨fs, ft, st⟩ := ZZ.out
    have hB : Below w.heap.size w W2 := Below.up hb hb2 hb.size
    rcases ends_less (fin_rep fs) (fin_rep ft) st hE1 hE2 with c | ⟨c, d⟩
    · have o1 := order_lt hE1.1 hE2.1 c
      clear hE1 hE2 fs ft st c
      go_wp2
      go_ret
      exact ⟨rfl, hB⟩
    · have o1 := order_eq hE1.1 hE2.1 c
      have o2 := order_lt hE1.2.1 hE2.2.1 d
      clear hE1 hE2 fs ft st c d
      go_wp2
      go_ret
      exact ⟨rfl, hB⟩
  · go_ret
    exact ⟨rfl, Below.refl _ _⟩
  · go_ret
    exact ⟨rfl, Below.refl _ _⟩

end Go.Proofs.Qxb6604785a
