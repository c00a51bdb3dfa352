/-
  zzCloneBytes (9) and zzEqualBytes (12), walked.
-/
import Derived.Test.Qxb6604270aNil
import Derived.Lib.SliceRun
import Derived.Deep.QuietTactic
import Derived.BigQuiet
namespace Go.Proofs.Qxb6604270a
open Go.RowKit

set_option maxHeartbeats 400000 in
theorem clone_nil (w : World) : Calls Try.prog 9 #[.slice none 0 0] w fun e w' => e = .returned (.slice none 0 0) ∧ w = w' := by
  have hq := fun w => Lib.run_eql_slice_nil (P := Try.prog) w 22 5 none 0 0 0 0 Try.underlying22
  go_enter Try.func9, Try.ntmps9
  go_wp2
  go_ret
  exact ⟨rfl, rfl⟩

theorem make_clone (n : Nat) (hn : n ≤ 1048576) (w : World) :
    (Instr.makeSlice 22 (.int .i64 (n : Int)) (.int .i64 ((n : Int) + 32))).run Try.prog w = .ok (.slice (some ⟨w.heap.size, 0, none⟩) n (n + 32)) (w.alloc (.cells (madeCells #[.int .u8 0] (n + 32)) 5)) := by
  obtain ⟨i0, hi, hz0, hz1, hz2⟩ := info_parts Try.info5
  have hr := run_make (P := Try.prog) w 22 5 i0 (.int .u8 0) Try.underlying22 hi hz0 .i64 .i64 n (n + 32) (by omega) (by omega) (by rw [hz2]; omega) (by omega)
  have e1 : ((n : Int) + 32).toNat = n + 32 := by omega
  rw [e1, hz1, Nat.mul_one] at hr
  exact hr

/-- What has been copied so far. -/
def Copied (zs : List Int) (n k : Nat) (cs : Array Value) : Prop := cs.size = n + 32 ∧ ∀ j, j < k → cs[j]? = some (.int .u8 (zs.getD j 0))

theorem Copied.start (zs : List Int) (n : Nat) : Copied zs n 0 (madeCells #[.int .u8 0] (n + 32)) := ⟨size_madeCells _ _, by omega⟩
theorem Copied.step {zs : List Int} {n k : Nat} {cs : Array Value} (h : Copied zs n k cs) (hk : k < n) : Copied zs n (k + 1) (cs.setIfInBounds k (.int .u8 (zs.getD k 0))) := by
  refine ⟨by simp [h.1], fun j hj => ?_⟩
  by_cases e : k = j
  · subst e
    have := h.1
    rw [Array.getElem?_setIfInBounds_self_of_lt (by omega)]
  · rw [Array.getElem?_setIfInBounds_ne e]
    exact h.2 j (by omega)

set_option maxHeartbeats 400000 in
theorem clone_row (a : Addr) (b off n cap : Nat) (zs : List Int) (w : World) (hn : n ≤ 1048576) (ha : 0 < n → a = ⟨b, off, none⟩) (hc : ∀ j, j < n → w.cell? ⟨b, off + j, none⟩ = some (.int .u8 (zs.getD j 0))) :
    Calls Try.prog 9 #[.slice (some a) n cap] w fun e w' => ∃ cs, e = .returned (.slice (some ⟨w.heap.size, 0, none⟩) n (n + 32)) ∧ w' = w.alloc (.cells cs 5) ∧ Copied zs n n cs := by
  have hq := fun w => Lib.run_eql_slice_nil (P := Try.prog) w 22 5 (some a) n cap 0 0 Try.underlying22
  have hmk := make_clone n hn
  go_enter Try.func9, Try.ntmps9
  go_wp2
  clear hmk hq
  go_loopw [4] (fun i wr => ∃ (k : Nat) (cs : Array Value), k ≤ n ∧ i = .int .i64 k ∧ wr = w.alloc (.cells cs 5) ∧ Copied zs n k cs) (fun i _ => n - (intOf i).toNat)
  case atStart => exact ⟨0, _, Nat.zero_le _, rfl, rfl, Copied.start zs n⟩
  case round =>
    obtain ⟨k, cs, hk, rfl, rfl, hC⟩ := hrel
    by_cases hlt : k < n
    · obtain rfl := ha (by omega)
      have hb := World.block_lt_of_cell? w _ (hc k hlt)
      have h1 : (w.alloc (.cells cs 5)).cell? ⟨b, off + k, none⟩ = some (.int .u8 (zs.getD k 0)) := by rw [World.cell?_alloc_lt]; exact hc k hlt; exact hb
      have hsz := hC.1
      have h2 : ∃ u, (w.alloc (.cells cs 5)).cell? ⟨w.heap.size, k, none⟩ = some u := ⟨cs[k]'(by omega), by rw [cell_of_row _ _ _ _ _ _ (heap_alloc_new w _)]; simp⟩
      obtain ⟨u, hu⟩ := h2
      clear hc hb
      go_wp2
      go_roundw
      case rel => exact ⟨k + 1, _, by omega, by go_num, rfl, by have := hC.step hlt; simpa using this⟩
      case measure => simp [intOf]; omega
    · go_wp2
      go_ret
      obtain rfl : k = n := by omega
      exact ⟨cs, rfl, rfl, hC⟩

theorem Copied.take {zs : List Int} {n : Nat} {cs : Array Value} (h : Copied zs n n cs) (hz : n ≤ zs.length) : cs.toList.take n = cells (zs.take n) := by
  apply List.ext_getElem?
  intro j
  by_cases hj : j < n
  · have h1 := h.2 j hj
    rw [List.getElem?_take, if_pos hj]
    rw [Array.getElem?_toList, h1]
    simp [cells, hj, List.getD, show j < zs.length by omega]
  · have h2 := h.1
    rw [List.getElem?_eq_none (by simp; omega), List.getElem?_eq_none (by simp [cells]; omega)]

theorem Copied.own {zs : List Int} {n : Nat} {cs : Array Value} (h : Copied zs n n cs) (hz : n ≤ zs.length) (hn : n ≤ 1048576) (w : World) :
    (w.alloc (.cells cs 5)).ownsRow 0 5 1 (.slice (some ⟨w.heap.size, 0, none⟩) n (n + 32)) (zs.take n).length (cells (zs.take n)) := by
  have e : (zs.take n).length = n := by simp; omega
  rw [e]
  refine ⟨by rw [cells_length, e, Nat.mul_one], .inr ⟨w.heap.size, n + 32, cs, rfl, Nat.zero_le _, heap_alloc_new w _, by omega, by unfold maxLen; omega, by rw [h.1, Nat.mul_one], ?_⟩⟩
  rw [Nat.mul_one]
  exact h.take hz

set_option maxHeartbeats 400000 in
theorem equal_yes (g1 g2 n c1 c2 : Nat) (L : List Int) (w : World) (hn : n ≤ 100000000) (b1 : g1 < w.heap.size) (b2 : g2 < w.heap.size) (h1 : ∀ j, j < n → w.cell? ⟨g1, j, none⟩ = some (.int .u8 (L.getD j 0))) (h2 : ∀ j, j < n → w.cell? ⟨g2, j, none⟩ = some (.int .u8 (L.getD j 0))) :
    Calls Try.prog 12 #[.slice (some ⟨g1, 0, none⟩) n c1, .slice (some ⟨g2, 0, none⟩) n c2] w fun e w' => e = .returned (.bool true) ∧ Below w.heap.size w w' := by
  go_enter Try.func12, Try.ntmps12
  go_wp2
  go_loopw [5] (fun i wr => ∃ k : Nat, k ≤ n ∧ i = .int .i64 k ∧ Below w.heap.size w wr) (fun i _ => n - (intOf i).toNat)
  case atStart => exact ⟨0, Nat.zero_le _, rfl, Below.refl _ _⟩
  case round =>
    obtain ⟨k, hk, rfl, hbr⟩ := hrel
    by_cases hlt : k < n
    · have q1 : wr.cell? ⟨g1, k, none⟩ = some (.int .u8 (L.getD k 0)) := by rw [hbr.cell (by exact b1)]; exact h1 k hlt
      have q2 : wr.cell? ⟨g2, k, none⟩ = some (.int .u8 (L.getD k 0)) := by rw [hbr.cell (by exact b2)]; exact h2 k hlt
      have i1 : (k : Int) < (n : Int) := by omega
      clear h1 h2
      go_wp2
      go_quiet (fail)
      go_wp2
      go_roundw
      case rel => exact ⟨k + 1, by omega, by go_num, below_drewN hbr _⟩
      case measure => simp [intOf]; omega
    · go_wp2
      go_ret
      exact ⟨rfl, hbr⟩

end Go.Proofs.Qxb6604270a
