/-
  The law HexValueMatchesDigitTable (function 6), walked out of the contracts.
-/
import Derived.Test.Qxb6604270aDigitOf
import Derived.Test.Qxb6604270aClone
namespace Go.Proofs.Qxb6604270a
open Go.RowKit

set_option maxHeartbeats 400000 in
theorem bytes16_yes (a : Option Addr) (n c : Nat) (w : World) (h : n ≤ 1048576) : Calls Try.prog 16 #[.slice a n c] w fun e w' => e = .returned (.bool true) ∧ w = w' := by
  go_enter Try.func16, Try.ntmps16
  go_wp2
  go_ret
  exact ⟨rfl, rfl⟩

set_option maxHeartbeats 400000 in
theorem bytes16_no (a : Option Addr) (n c : Nat) (w : World) (h : ¬ n ≤ 1048576) : Calls Try.prog 16 #[.slice a n c] w fun e w' => e = .returned (.bool false) ∧ w = w' := by
  go_enter Try.func16, Try.ntmps16
  go_wp2
  go_ret
  exact ⟨rfl, rfl⟩

theorem Copied.cell {zs : List Int} {n : Nat} {cs : Array Value} (h : Copied zs n n cs) (w : World) (j : Nat) (hj : j < n) : (w.alloc (.cells cs 5)).cell? ⟨w.heap.size, j, none⟩ = some (.int .u8 (zs.getD j 0)) := by
  rw [cell_of_row _ _ _ _ _ _ (heap_alloc_new w _)]; exact h.2 j hj

set_option maxHeartbeats 400000 in
theorem law6_nil (w : World) : Calls Try.prog 6 #[.slice none 0 0] w fun e w' => e = .returned (.bool true) ∧ Below w.heap.size w w' := by
  go_enter Try.func6, Try.ntmps6
  go_wp2_with fail
  refine (bytes16_yes _ _ _ _ (by omega)).mono ?_
  rintro e w' ⟨rfl, rfl⟩
  go_wp2_with fail
  refine (clone_nil _).mono ?_
  rintro e w' ⟨rfl, rfl⟩
  go_wp2_with fail
  refine (zzNot4 _ _ _ _ (by omega)).mono ?_
  rintro e w' ⟨rfl, rfl⟩
  go_wp2
  go_ret
  exact ⟨rfl, Below.refl _ _⟩

set_option maxHeartbeats 400000 in
theorem law6_not4 (a : Addr) (b off n cap : Nat) (zs : List Int) (w : World) (hn : n ≤ 1048576) (ha : 0 < n → a = ⟨b, off, none⟩) (hc : ∀ j, j < n → w.cell? ⟨b, off + j, none⟩ = some (.int .u8 (zs.getD j 0))) (h4 : n ≠ 4) :
    Calls Try.prog 6 #[.slice (some a) n cap] w fun e w' => e = .returned (.bool true) ∧ Below w.heap.size w w' := by
  have hb : ((n : Int) != 4) = true := by simp; omega
  have K : Hid _ := clone_row a b off n cap zs w hn ha hc
  clear hc ha
  go_enter Try.func6, Try.ntmps6
  go_wp2_with fail
  refine (bytes16_yes _ _ _ _ hn).mono ?_
  rintro e w' ⟨rfl, rfl⟩
  go_wp2_with fail
  refine Calls.mono K.out ?_
  rintro e w' ⟨cs, rfl, rfl, hC⟩
  go_wp2_with fail
  refine (zzNot4 _ _ _ _ h4).mono ?_
  rintro e w' ⟨rfl, rfl⟩
  go_wp2
  go_ret
  exact ⟨rfl, (Below.refl _ _).alloc (Nat.le_refl _) _⟩

theorem dg_some {c d : Int} (h : dig c = some d) : dg c = d := by unfold dg; rw [h]; rfl
theorem dg_none {c : Int} (h : dig c = none) : dg c = -1 := by unfold dg; rw [h]; rfl
theorem dig_range {c d : Int} (h : dig c = some d) : 0 ≤ d ∧ d < 16 := by
  unfold dig at h
  split at h
  · simp at h; omega
  · split at h
    · simp at h; omega
    · split at h
      · simp at h; omega
      · simp at h

/-- Four digits: all there, or one lacks. -/
theorem four_digits (c0 c1 c2 c3 : Int) :
    ((0 ≤ dg c0 ∧ dg c0 < 16) ∧ (0 ≤ dg c1 ∧ dg c1 < 16) ∧ (0 ≤ dg c2 ∧ dg c2 < 16) ∧ (0 ≤ dg c3 ∧ dg c3 < 16) ∧ hexFold [c0, c1, c2, c3] 0 = some (dg c0 * 4096 + dg c1 * 256 + dg c2 * 16 + dg c3)) ∨
    (hexFold [c0, c1, c2, c3] 0 = none ∧ (dg c0 < 0 ∨ (0 ≤ dg c0 ∧ dg c1 < 0) ∨ (0 ≤ dg c0 ∧ 0 ≤ dg c1 ∧ dg c2 < 0) ∨ (0 ≤ dg c0 ∧ 0 ≤ dg c1 ∧ 0 ≤ dg c2 ∧ dg c3 < 0))) := by
  cases h0 : dig c0 with
  | none => exact .inr ⟨hexFold_cons_none h0, .inl (by rw [dg_none h0]; decide)⟩
  | some d0 =>
    have r0 := dig_range h0
    rw [hexFold_cons_some h0]
    cases h1 : dig c1 with
    | none => exact .inr ⟨hexFold_cons_none h1, .inr (.inl ⟨by rw [dg_some h0]; omega, by rw [dg_none h1]; decide⟩)⟩
    | some d1 =>
      have r1 := dig_range h1
      rw [hexFold_cons_some h1]
      cases h2 : dig c2 with
      | none => exact .inr ⟨hexFold_cons_none h2, .inr (.inr (.inl ⟨by rw [dg_some h0]; omega, by rw [dg_some h1]; omega, by rw [dg_none h2]; decide⟩))⟩
      | some d2 =>
        have r2 := dig_range h2
        rw [hexFold_cons_some h2]
        cases h3 : dig c3 with
        | none => exact .inr ⟨hexFold_cons_none h3, .inr (.inr (.inr ⟨by rw [dg_some h0]; omega, by rw [dg_some h1]; omega, by rw [dg_some h2]; omega, by rw [dg_none h3]; decide⟩))⟩
        | some d3 =>
          have r3 := dig_range h3
          rw [hexFold_cons_some h3, dg_some h0, dg_some h1, dg_some h2, dg_some h3]
          exact .inl ⟨r0, r1, r2, r3, by simp only [hexFold, Option.some.injEq]; omega⟩

set_option maxHeartbeats 1000000 in
theorem law6_four (b off cap : Nat) (zs : List Int) (w : World) (hc : ∀ j, j < 4 → w.cell? ⟨b, off + j, none⟩ = some (.int .u8 (zs.getD j 0))) (hbd : ∀ j, 0 ≤ zs.getD j 0 ∧ zs.getD j 0 < 256) :
    Calls Try.prog 6 #[.slice (some ⟨b, off, none⟩) 4 cap] w fun e w' => e = .returned (.bool true) ∧ Below w.heap.size w w' := by
  have K : Hid _ := clone_row ⟨b, off, none⟩ b off 4 cap zs w (by omega) (fun _ => rfl) hc
  clear hc
  have F := four_digits (zs.getD 0 0) (zs.getD 1 0) (zs.getD 2 0) (zs.getD 3 0)
  have b0 := hbd 0
  have b1 := hbd 1
  have b2 := hbd 2
  have b3 := hbd 3
  obtain ⟨c0, hc0⟩ : ∃ c, c = zs.getD 0 0 := ⟨_, rfl⟩
  obtain ⟨c1, hc1⟩ : ∃ c, c = zs.getD 1 0 := ⟨_, rfl⟩
  obtain ⟨c2, hc2⟩ : ∃ c, c = zs.getD 2 0 := ⟨_, rfl⟩
  obtain ⟨c3, hc3⟩ : ∃ c, c = zs.getD 3 0 := ⟨_, rfl⟩
  rw [← hc0] at b0 F
  rw [← hc1] at b1 F
  rw [← hc2] at b2 F
  rw [← hc3] at b3 F
  have hq : Hid (∀ cs, Copied zs 4 4 cs → (w.alloc (.cells cs 5)).cell? ⟨w.heap.size, 0, none⟩ = some (.int .u8 c0) ∧ (w.alloc (.cells cs 5)).cell? ⟨w.heap.size, 1, none⟩ = some (.int .u8 c1) ∧ (w.alloc (.cells cs 5)).cell? ⟨w.heap.size, 2, none⟩ = some (.int .u8 c2) ∧ (w.alloc (.cells cs 5)).cell? ⟨w.heap.size, 3, none⟩ = some (.int .u8 c3)) := by
    intro cs hC
    rw [hc0, hc1, hc2, hc3]
    exact ⟨hC.cell w 0 (by omega), hC.cell w 1 (by omega), hC.cell w 2 (by omega), hC.cell w 3 (by omega)⟩
  clear hc0 hc1 hc2 hc3 hbd
  have K0 := fun wx => hexDigitOf_any c0 wx b0.1 b0.2
  have K1 := fun wx => hexDigitOf_any c1 wx b1.1 b1.2
  have K2 := fun wx => hexDigitOf_any c2 wx b2.1 b2.2
  have K3 := fun wx => hexDigitOf_any c3 wx b3.1 b3.2
  have hbb : ∀ c ∈ [c0, c1, c2, c3], 0 ≤ c ∧ c ≤ 255 := by simp; omega
  obtain ⟨d0, hd0⟩ : ∃ d, d = dg c0 := ⟨_, rfl⟩
  obtain ⟨d1, hd1⟩ : ∃ d, d = dg c1 := ⟨_, rfl⟩
  obtain ⟨d2, hd2⟩ : ∃ d, d = dg c2 := ⟨_, rfl⟩
  obtain ⟨d3, hd3⟩ : ∃ d, d = dg c3 := ⟨_, rfl⟩
  rw [← hd0] at K0 F
  rw [← hd1] at K1 F
  rw [← hd2] at K2 F
  rw [← hd3] at K3 F
  have K0' : Hid _ := K0
  have K1' : Hid _ := K1
  have K2' : Hid _ := K2
  have K3' : Hid _ := K3
  clear hd0 hd1 hd2 hd3 K0 K1 K2 K3
  rcases F with ⟨⟨p0, q0⟩, ⟨p1, q1⟩, ⟨p2, q2⟩, ⟨p3, q3⟩, HF⟩ | ⟨HF, hneg⟩
  · have HF' : Hid _ := HF
    clear HF
    go_enter Try.func6, Try.ntmps6
    go_wp2_with fail
    refine (bytes16_yes _ _ _ _ (by omega)).mono ?_
    rintro e w' ⟨rfl, rfl⟩
    go_wp2_with fail
    refine Calls.mono K.out ?_
    rintro e w' ⟨cs, rfl, rfl, hC⟩
    obtain ⟨e0, e1, e2, e3⟩ := hq.out cs hC
    go_wp2_with fail
    refine (zz4 _ 0 _ [c0, c1, c2, c3] rfl _ ?_ hbb).mono ?_
    · intro j hj
      match j, hj with
      | 0, _ => simpa using e0
      | 1, _ => simpa using e1
      | 2, _ => simpa using e2
      | 3, _ => simpa using e3
    rw [HF'.out]
    rintro e w' ⟨rfl, rfl⟩
    go_wp2_with fail
    refine (K0'.out _).mono ?_
    rintro e w' ⟨rfl, rfl⟩
    go_wp2_with fail
    refine (K1'.out _).mono ?_
    rintro e w' ⟨rfl, rfl⟩
    go_wp2_with fail
    refine (K2'.out _).mono ?_
    rintro e w' ⟨rfl, rfl⟩
    go_wp2_with fail
    refine (K3'.out _).mono ?_
    rintro e w' ⟨rfl, rfl⟩
    go_wp2
    go_ret
    exact ⟨rfl, (Below.refl _ _).alloc (Nat.le_refl _) _⟩
  · have HF' : Hid _ := HF
    clear HF
    rcases hneg with n0 | ⟨n0, n1⟩ | ⟨n0, n1, n2⟩ | ⟨n0, n1, n2, n3⟩
    all_goals
      go_enter Try.func6, Try.ntmps6
      go_wp2_with fail
      refine (bytes16_yes _ _ _ _ (by omega)).mono ?_
      rintro e w' ⟨rfl, rfl⟩
      go_wp2_with fail
      refine Calls.mono K.out ?_
      rintro e w' ⟨cs, rfl, rfl, hC⟩
      obtain ⟨e0, e1, e2, e3⟩ := hq.out cs hC
      go_wp2_with fail
      refine (zz4 _ 0 _ [c0, c1, c2, c3] rfl _ ?_ hbb).mono ?_
      · intro j hj
        match j, hj with
        | 0, _ => simpa using e0
        | 1, _ => simpa using e1
        | 2, _ => simpa using e2
        | 3, _ => simpa using e3
      rw [HF'.out]
      rintro e w' ⟨rfl, rfl⟩
      go_wp2_with fail
      refine (K0'.out _).mono ?_
      rintro e w' ⟨rfl, rfl⟩
      go_wp2_with fail
      refine (K1'.out _).mono ?_
      rintro e w' ⟨rfl, rfl⟩
      go_wp2_with fail
      refine (K2'.out _).mono ?_
      rintro e w' ⟨rfl, rfl⟩
      go_wp2_with fail
      refine (K3'.out _).mono ?_
      rintro e w' ⟨rfl, rfl⟩
      go_wp2
      go_ret
      exact ⟨rfl, (Below.refl _ _).alloc (Nat.le_refl _) _⟩
end Go.Proofs.Qxb6604270a
