/-
  The law EscapesByteByByte (function 5), walked out of the contracts.
-/
import Derived.Test.Qxb6604270aNil
import Derived.Deep.QuietTactic
import Derived.BigQuiet
namespace Go.Proofs.Qxb6604270a
open Go.RowKit

theorem getD_seam (A B : List Int) (j : Nat) (h : j < (quo A).length - 1) : (quo (A ++ B)).getD j 0 = (quo A).getD j 0 := by
  rw [quo_len] at h
  have e1 : quo (A ++ B) = ([34] ++ escs A) ++ (escs B ++ [34]) := by simp [quo, escs_append]
  have e2 : quo A = ([34] ++ escs A) ++ [34] := by simp [quo]
  have hl : j < ([34] ++ escs A).length := by simp; omega
  rw [e1, e2]
  simp only [List.getD]
  rw [List.getElem?_append_left hl, List.getElem?_append_left hl]

theorem getD_seam2 (A B : List Int) (j : Nat) (h1 : 1 ≤ j) : (quo (A ++ B)).getD ((quo A).length - 1 + j - 1) 0 = (quo B).getD j 0 := by
  have e1 : quo (A ++ B) = ([34] ++ escs A) ++ (escs B ++ [34]) := by simp [quo, escs_append]
  have e2 : quo B = [34] ++ (escs B ++ [34]) := by simp [quo]
  have e3 : (quo A).length - 1 + j - 1 = ([34] ++ escs A).length + (j - 1) := by rw [quo_len]; simp; omega
  rw [e1, e2, e3]
  simp only [List.getD]
  have hr : ([34] : List Int).length ≤ j := by simpa using h1
  rw [List.getElem?_append_right (Nat.le_add_right _ _), List.getElem?_append_right hr]
  simp

set_option maxHeartbeats 1000000 in
theorem law5 (a b : ByteArray) (w : World) (h : a.size + b.size ≤ 1048576) :
    Calls Try.prog 5 #[.string a, .string b] w fun e w' => e = .returned (.bool true) ∧ Below w.heap.size w w' := by
  obtain ⟨n1, hn1⟩ : ∃ n, n = (quo (bytesI (a ++ b))).length := ⟨_, rfl⟩
  obtain ⟨n2, hn2⟩ : ∃ n, n = (quo (bytesI a)).length := ⟨_, rfl⟩
  obtain ⟨n3, hn3⟩ : ∃ n, n = (quo (bytesI b)).length := ⟨_, rfl⟩
  have l2 := escs_len (bytesI a)
  have l3 := escs_len (bytesI b)
  rw [bytesI_length] at l2 l3
  have b1 : n1 + 2 = n2 + n3 := by rw [hn1, hn2, hn3, quo_len, quo_len, quo_len, bytesI_append, escs_append, List.length_append]; omega
  have b1a : n1 + 2 ≤ n2 + n3 := by omega
  have b1b : n2 + n3 ≤ n1 + 2 := by omega
  obtain ⟨b2a, b2b⟩ : a.size + 2 ≤ n2 ∧ n2 ≤ 6 * a.size + 2 := by rw [hn2, quo_len]; omega
  obtain ⟨b3a, b3b⟩ : b.size + 2 ≤ n3 ∧ n3 ≤ 6 * b.size + 2 := by rw [hn3, quo_len]; omega
  have k1 := fun wx => appendString_nil (a ++ b) wx (by rw [ByteArray.size_append]; exact h)
  have k2 := fun wx => appendString_nil a wx (by omega)
  have k3 := fun wx => appendString_nil b wx (by omega)
  rw [← hn1] at k1
  rw [← hn2] at k2
  rw [← hn3] at k3
  have s1 : ∀ j, j < n2 - 1 → (quo (bytesI (a ++ b))).getD j 0 = (quo (bytesI a)).getD j 0 := fun j hj => by rw [bytesI_append]; exact getD_seam _ _ j (by rw [← hn2]; exact hj)
  have s2 : ∀ j, 1 ≤ j → (quo (bytesI (a ++ b))).getD (n2 - 1 + j - 1) 0 = (quo (bytesI b)).getD j 0 := fun j h1 => by rw [bytesI_append, hn2]; exact getD_seam2 _ _ j h1
  have S1 : Hid _ := s1
  have S2 : Hid _ := s2
  have K1 : Hid _ := k1
  have K2 : Hid _ := k2
  have K3 : Hid _ := k3
  clear k1 k2 k3 s1 s2 hn1 hn2 hn3 l2 l3 b1
  go_enter Try.func5, Try.ntmps5
  go_wp2_with (go_at_call 15; refine (bytes15_yes _ _ _ h).mono ?_; rintro e w' ⟨rfl, rfl⟩)
  refine (K1.out _).mono ?_
  rintro e w1 ⟨g1, c1, rfl, hl1, hsz1, hc1, hb1⟩
  go_wp2_with fail
  refine (K2.out _).mono ?_
  rintro e w2 ⟨g2, c2, rfl, hl2, hsz2, hc2, hb2⟩
  go_wp2_with fail
  refine (K3.out _).mono ?_
  rintro e w3 ⟨g3, c3, rfl, hl3, hsz3, hc3, hb3⟩
  have hc1' : ∀ j, j < n1 → w3.cell? ⟨g1, j, none⟩ = some (.int .u8 ((quo (bytesI (a ++ b))).getD j 0)) := fun j hj => by rw [hb3.cell (by show g1 < _; omega), hb2.cell (by exact hl1)]; exact hc1 j hj
  have hc2' : ∀ j, j < n2 → w3.cell? ⟨g2, j, none⟩ = some (.int .u8 ((quo (bytesI a)).getD j 0)) := fun j hj => by rw [hb3.cell (by exact hl2)]; exact hc2 j hj
  clear hc1 hc2
  go_wp2
  go_loopw [9] (fun i wr => ∃ k : Nat, k ≤ n2 - 1 ∧ i = .int .i64 k ∧ Below w3.heap.size w3 wr) (fun i _ => n2 - (intOf i).toNat)
  case atStart => exact ⟨0, Nat.zero_le _, rfl, Below.refl _ _⟩
  case round =>
    obtain ⟨k, hk, rfl, hbr⟩ := hrel
    by_cases hlt : k < n2 - 1
    · have q1 : wr.cell? ⟨g1, k, none⟩ = some (.int .u8 ((quo (bytesI a)).getD k 0)) := by rw [hbr.cell (by show g1 < _; omega), hc1' k (by omega), S1.out k hlt]
      have q2 : wr.cell? ⟨g2, k, none⟩ = some (.int .u8 ((quo (bytesI a)).getD k 0)) := by rw [hbr.cell (by show g2 < _; omega), hc2' k (by omega)]
      have i1 : (k : Int) < (n1 : Int) := by omega
      have i2 : (k : Int) < (n2 : Int) := by omega
      have i3 : (k : Int) < (n2 : Int) - 1 := by omega
      clear hc1' hc2' hc3
      go_wp2
      go_quiet (fail)
      go_wp2
      go_roundw
      case rel => exact ⟨k + 1, by omega, by go_num, below_drewN hbr _⟩
      case measure => simp [intOf]; omega
    · go_wp2
      obtain ⟨wo, hwo⟩ : ∃ wo : World, wo = wr := ⟨_, rfl⟩
      subst hwo
      go_loopw [10] (fun i wr => ∃ k : Nat, 1 ≤ k ∧ k ≤ n3 ∧ i = .int .i64 k ∧ Below w3.heap.size w3 wr) (fun i _ => n3 - (intOf i).toNat)
      case atStart => exact ⟨1, Nat.le_refl _, by omega, rfl, hbr⟩
      case round =>
        obtain ⟨j, hj1, hj, rfl, hbr2⟩ := hrel
        by_cases hlt2 : j < n3
        · have q1 : wr.cell? ⟨g1, n2 - 1 + j - 1, none⟩ = some (.int .u8 ((quo (bytesI b)).getD j 0)) := by rw [hbr2.cell (by show g1 < _; omega), hc1' _ (by omega), S2.out j hj1]
          have q2 : wr.cell? ⟨g3, j, none⟩ = some (.int .u8 ((quo (bytesI b)).getD j 0)) := by rw [hbr2.cell (by show g3 < _; omega), hc3 j (by omega)]
          have i1 : (n2 : Int) - 1 + (j : Int) - 1 < (n1 : Int) := by omega
          have i2 : (j : Int) < (n3 : Int) := by omega
          have e1 : ((n2 : Int) - 1 + (j : Int) - 1).toNat = n2 - 1 + j - 1 := by omega
          clear hc1' hc2' hc3
          go_wp2
          go_quiet (fail)
          go_wp2
          go_roundw
          case rel => exact ⟨j + 1, by omega, by omega, by go_num, below_drewN hbr2 _⟩
          case measure => simp [intOf]; omega
        · go_wp2
          go_ret
          exact ⟨rfl, ((hb1.trans (hb2.mono hsz1)).trans (hb3.mono (Nat.le_trans hsz1 hsz2))).trans (hbr2.mono (by omega))⟩
end Go.Proofs.Qxb6604270a
