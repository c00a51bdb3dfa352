/-
  The law HornerPeelsTheFirstCoefficient (function 4) and what it calls, walked.
-/
import Derived.Test.Qxb6604785aFlt
import Derived.Deep.OwnRows
namespace Go.Proofs.Qxb6604785a
open Go.RowKit

theorem Try.info22 : (Try.prog.info? 22).map (fun i => (i.zero, i.size, i.bytes)) = some (some (.float .f64 0), 1, 8) := by kernel_rfl

set_option maxHeartbeats 400000 in
theorem bytes14_yes (x : Value) (a : Option Addr) (n c : Nat) (w : World) (h : n ≤ 1048576) : Calls Try.prog 14 #[x, .slice a n c] w fun e w' => e = .returned (.bool true) ∧ w = w' := by
  go_enter Try.func14, Try.ntmps14
  go_wp2
  go_ret
  exact ⟨rfl, rfl⟩

set_option maxHeartbeats 400000 in
theorem bytes14_no (x : Value) (a : Option Addr) (n c : Nat) (w : World) (h : ¬ n ≤ 1048576) : Calls Try.prog 14 #[x, .slice a n c] w fun e w' => e = .returned (.bool false) ∧ w = w' := by
  go_enter Try.func14, Try.ntmps14
  go_wp2
  go_ret
  exact ⟨rfl, rfl⟩

/-- What has been copied so far. -/
def Copied (zs : List Nat) (n k : Nat) (cs : Array Value) : Prop := cs.size = n ∧ ∀ j, j < k → cs[j]? = some (.float .f64 (zs.getD j 0))

theorem Copied.start (zs : List Nat) (n : Nat) : Copied zs n 0 (madeCells #[.float .f64 0] n) := ⟨size_madeCells _ _, by omega⟩
theorem Copied.step {zs : List Nat} {n k : Nat} {cs : Array Value} (h : Copied zs n k cs) (hk : k < n) : Copied zs n (k + 1) (cs.setIfInBounds k (.float .f64 (zs.getD k 0))) := by
  refine ⟨by simp [h.1], fun j hj => ?_⟩
  by_cases e : k = j
  · subst e
    have := h.1
    rw [Array.getElem?_setIfInBounds_self_of_lt (by omega)]
  · rw [Array.getElem?_setIfInBounds_ne e]
    exact h.2 j (by omega)

theorem Copied.cell {zs : List Nat} {n : Nat} {cs : Array Value} (h : Copied zs n n cs) (w : World) (j : Nat) (hj : j < n) : (w.alloc (.cells cs 22)).cell? ⟨w.heap.size, j, none⟩ = some (.float .f64 (zs.getD j 0)) := by
  rw [cell_of_row _ _ _ _ _ _ (heap_alloc_new w _)]; exact h.2 j hj

set_option maxHeartbeats 400000 in
theorem copy_row (b off n cap : Nat) (zs : List Nat) (w : World) (hn : n ≤ 1048576) (hc : ∀ j, j < n → w.cell? ⟨b, off + j, none⟩ = some (.float .f64 (zs.getD j 0))) :
    Calls Try.prog 15 #[.slice (some ⟨b, off, none⟩) n cap] w fun e w' => ∃ cs, e = .returned (.slice (some ⟨w.heap.size, 0, none⟩) n n) ∧ w' = w.alloc (.cells cs 22) ∧ Copied zs n n cs := by
  have hmk := run_make_row' (P := Try.prog) 37 22 (.float .f64 0) 8 Try.underlying37 Try.info22 rfl .i64 .i64 n (by omega) (by omega)
  go_enter Try.func15, Try.ntmps15
  go_wp2
  clear hmk
  go_loopw [4] (fun i wr => ∃ (k : Nat) (cs : Array Value), k ≤ n ∧ i = .int .i64 k ∧ wr = w.alloc (.cells cs 22) ∧ Copied zs n k cs) (fun i _ => n - (intOf i).toNat)
  case atStart => exact ⟨0, _, Nat.zero_le _, rfl, rfl, Copied.start zs n⟩
  case round =>
    obtain ⟨k, cs, hk, rfl, rfl, hC⟩ := hrel
    by_cases hlt : k < n
    · have hb := World.block_lt_of_cell? w _ (hc k hlt)
      have h1 : (w.alloc (.cells cs 22)).cell? ⟨b, off + k, none⟩ = some (.float .f64 (zs.getD k 0)) := by rw [World.cell?_alloc_lt]; exact hc k hlt; exact hb
      have hsz := hC.1
      have h2 : ∃ u, (w.alloc (.cells cs 22)).cell? ⟨w.heap.size, k, none⟩ = some u := ⟨cs[k]'(by omega), by rw [cell_of_row _ _ _ _ _ _ (heap_alloc_new w _)]; simp⟩
      obtain ⟨u, hu⟩ := h2
      have hst := fun (w : World) (a : Addr) (b : Nat) => run_store Try.prog w a (.float .f64 b) .plain rfl
      clear hc hb
      go_wp2
      go_roundw
      case rel => exact ⟨k + 1, _, by omega, by go_num, rfl, by have := hC.step hlt; simpa using this⟩
      case measure => simp [intOf]; omega
    · go_wp2
      go_ret
      obtain rfl : k = n := by omega
      exact ⟨cs, rfl, rfl, hC⟩

set_option maxHeartbeats 400000 in
theorem horner_any (x g off n cap : Nat) (zs : List Nat) (w : World) (hl : zs.length = n) (h0 : 0 < n) (hn : n ≤ 1048576) (hg : g < w.heap.size) (hc : ∀ j, j < n → w.cell? ⟨g, off + j, none⟩ = some (.float .f64 (zs.getD j 0))) :
    Calls Try.prog 21 #[.float .f64 x, .slice (some ⟨g, off, none⟩) n cap] w fun e w' => ∃ y, e = .returned (.float .f64 y) ∧ cls y = hornerC (cls x) (zs.map cls) ∧ Below w.heap.size w w' := by
  have q0 : w.cell? ⟨g, off + (n - 1), none⟩ = some (.float .f64 (zs.getD (n - 1) 0)) := hc (n - 1) (by omega)
  have i0 : ((n : Int) - 1).toNat = n - 1 := by omega
  have hadd := run_add
  have hmul := run_mul
  go_enter Try.func21, Try.ntmps21
  go_wp2
  go_loopw [5, 6] (fun y i wr => ∃ (k yy : Nat), k ≤ n - 1 ∧ i = .int .i64 ((k : Int) - 1) ∧ y = .float .f64 yy ∧ cls yy = hornerC (cls x) ((zs.drop k).map cls) ∧ Below w.heap.size w wr) (fun _ i _ => (intOf i + 1).toNat)
  case atStart =>
    refine ⟨n - 1, zs.getD (n - 1) 0, Nat.le_refl _, ?_, by simp, ?_, Below.refl _ _⟩
    · rw [show ((n - 1 : Nat) : Int) - 1 = (n : Int) - 2 from by omega]
    · rw [List.drop_eq_getElem_cons (by omega), List.drop_of_length_le (by omega)]
      simp [hornerC, List.getD, show n - 1 < zs.length by omega]
  case round =>
    obtain ⟨k, yy, hk, rfl, rfl, hC, hbr⟩ := hrel
    cases k with
    | zero =>
      have HC : Hid _ := hC
      clear hC hc q0
      go_wp2
      go_ret
      exact ⟨yy, rfl, by simpa using HC.out, hbr⟩
    | succ j =>
      have q1 : wr.cell? ⟨g, off + j, none⟩ = some (.float .f64 (zs.getD j 0)) := by rw [hbr.cell (by exact hg)]; exact hc j (by omega)
      have e1 : ((j + 1 : Nat) : Int) - 1 = (j : Int) := by omega
      have HS : Hid (∀ (y' : Nat), cls y' = fop .add (cls (zs.getD j 0)) (fop .mul (cls x) (cls yy)) → cls y' = hornerC (cls x) ((zs.drop j).map cls)) := by
        intro y' h
        rw [List.drop_eq_getElem_cons (by omega), List.map_cons, hornerC_cons _ _ _ (by simp; omega), ← hC, h]
        simp [List.getD, show j < zs.length by omega]
      rw [e1]
      clear hC hc q0
      go_wp2
      go_roundw
      case rel =>
        refine ⟨j, _, by omega, rfl, rfl, HS.out _ ?_, fltW_below (fltW_below hbr _ _ _) _ _ _⟩
        rw [cls_add, cls_mul]
        simp
      case measure => simp [intOf]

set_option maxHeartbeats 400000 in
theorem zzhorner_any (x g off n cap : Nat) (zs : List Nat) (w : World) (hl : zs.length = n) (h0 : 0 < n) (hn : n ≤ 1048576) (hg : g < w.heap.size) (hc : ∀ j, j < n → w.cell? ⟨g, off + j, none⟩ = some (.float .f64 (zs.getD j 0))) :
    Calls Try.prog 16 #[.float .f64 x, .slice (some ⟨g, off, none⟩) n cap] w fun e w' => ∃ y, e = .returned (.float .f64 y) ∧ cls y = hornerC (cls x) (zs.map cls) ∧ Below w.heap.size w w' := by
  go_enter Try.func16, Try.ntmps16
  go_wp2_with fail
  refine (horner_any x g off n cap zs w hl h0 hn hg hc).mono ?_
  rintro e w' ⟨y, rfl, hy, hb⟩
  have HY : Hid _ := hy
  clear hy
  go_wp2
  go_ret
  exact ⟨y, rfl, HY.out, hb⟩

set_option maxHeartbeats 400000 in
theorem fSame_yes (a b : Nat) (h : cls a = cls b) (w : World) : Calls Try.prog 17 #[.float .f64 a, .float .f64 b] w fun e w' => e = .returned (.bool true) ∧ w = w' := by
  by_cases hn : isN a = true
  · have hb : isN b = true := by
      unfold cls at h
      rw [if_pos hn] at h
      by_cases hb : isN b = true
      · exact hb
      · rw [if_neg hb] at h; cases h
    have o1 : FloatKind.f64.format.order a b = none := order_nan hn
    have o2 : FloatKind.f64.format.order a a = none := order_nan hn
    have o3 : FloatKind.f64.format.order b b = none := order_nan hb
    clear h
    go_enter Try.func17, Try.ntmps17
    go_wp2
    go_ret
    exact ⟨rfl, rfl⟩
  · have hb : a = b := by
      unfold cls at h
      rw [if_neg hn] at h
      by_cases hb : isN b = true
      · rw [if_pos hb] at h; cases h
      · rw [if_neg hb] at h; exact Option.some.inj h
    subst hb
    have o1 : FloatKind.f64.format.order a a = some .eq := order_self (by simpa using hn)
    clear h
    go_enter Try.func17, Try.ntmps17
    go_wp2
    go_ret
    exact ⟨rfl, rfl⟩


set_option maxHeartbeats 400000 in
theorem law4_none (x : Nat) (a : Option Addr) (c : Nat) (w : World) : Calls Try.prog 4 #[.float .f64 x, .slice a 0 c] w fun e w' => e = .returned (.bool true) ∧ Below w.heap.size w w' := by
  go_enter Try.func4, Try.ntmps4
  go_wp2_with (go_at_call 14; refine (bytes14_yes _ _ _ _ _ (by omega)).mono ?_; rintro e w' ⟨rfl, rfl⟩)
  go_ret
  exact ⟨rfl, Below.refl _ _⟩

set_option maxHeartbeats 400000 in
theorem law4_long (x : Nat) (a : Option Addr) (n c : Nat) (w : World) (h : 65536 < n) : Calls Try.prog 4 #[.float .f64 x, .slice a n c] w fun e w' => e = .returned (.bool true) ∧ Below w.heap.size w w' := by
  by_cases h2 : n ≤ 1048576
  · go_enter Try.func4, Try.ntmps4
    go_wp2_with (go_at_call 14; refine (bytes14_yes _ _ _ _ _ h2).mono ?_; rintro e w' ⟨rfl, rfl⟩)
    go_ret
    exact ⟨rfl, Below.refl _ _⟩
  · go_enter Try.func4, Try.ntmps4
    go_wp2_with (go_at_call 14; refine (bytes14_no _ _ _ _ _ h2).mono ?_; rintro e w' ⟨rfl, rfl⟩)
    go_ret
    exact ⟨rfl, Below.refl _ _⟩

set_option maxHeartbeats 1000000 in
theorem law4_row (x b off n cap : Nat) (zs : List Nat) (w : World) (hl : zs.length = n) (h0 : 0 < n) (hn : n ≤ 65536) (hc : ∀ j, j < n → w.cell? ⟨b, off + j, none⟩ = some (.float .f64 (zs.getD j 0))) :
    Calls Try.prog 4 #[.float .f64 x, .slice (some ⟨b, off, none⟩) n cap] w fun e w' => e = .returned (.bool true) ∧ Below w.heap.size w w' := by
  have K : Hid _ := copy_row b off n cap zs w (by omega) hc
  have n0 : ((n : Int) == 0) = false := by simp; omega
  by_cases h1 : n = 1
  · subst h1
    clear hc
    go_enter Try.func4, Try.ntmps4
    go_wp2_with (go_at_call 14; refine (bytes14_yes _ _ _ _ _ (by omega)).mono ?_; rintro e w' ⟨rfl, rfl⟩)
    refine Calls.mono K.out ?_
    rintro e w1 ⟨cs, rfl, rfl, hC⟩
    go_wp2_with fail
    refine (zzhorner_any x w.heap.size 0 1 1 zs _ hl (by omega) (by omega) (by simp) (fun j hj => by rw [Nat.zero_add]; exact hC.cell w j hj)).mono ?_
    rintro e w2 ⟨y, rfl, hy, hb⟩
    obtain ⟨z0, hz0⟩ : ∃ z, z = zs.getD 0 0 := ⟨_, rfl⟩
    have q0 : w2.cell? ⟨w.heap.size, 0, none⟩ = some (.float .f64 z0) := by rw [hz0, hb.cell (by simp)]; exact hC.cell w 0 (by omega)
    have HY : Hid (cls y = cls z0) := by
      rw [hz0]
      match zs, hl with
      | [z], _ => exact hy
    clear hy hz0
    go_wp2_with fail
    refine (fSame_yes _ _ HY.out _).mono ?_
    rintro e w' ⟨rfl, rfl⟩
    go_wp2
    go_ret
    exact ⟨rfl, ((Below.refl _ _).alloc (Nat.le_refl _) _).trans (hb.mono (by simp))⟩
  · have n1 : ((n : Int) == 1) = false := by simp; omega
    have hn1 : ¬ n = 1 := h1
    clear hc
    go_enter Try.func4, Try.ntmps4
    go_wp2_with (go_at_call 14; refine (bytes14_yes _ _ _ _ _ (by omega)).mono ?_; rintro e w' ⟨rfl, rfl⟩)
    refine Calls.mono K.out ?_
    rintro e w1 ⟨cs, rfl, rfl, hC⟩
    go_wp2_with fail
    refine (zzhorner_any x w.heap.size 0 n n zs _ hl (by omega) (by omega) (by simp) (fun j hj => by rw [Nat.zero_add]; exact hC.cell w j hj)).mono ?_
    rintro e w2 ⟨y, rfl, hy, hb⟩
    obtain ⟨z0, hz0⟩ : ∃ z, z = zs.getD 0 0 := ⟨_, rfl⟩
    have q0 : w2.cell? ⟨w.heap.size, 0, none⟩ = some (.float .f64 z0) := by rw [hz0, hb.cell (by simp)]; exact hC.cell w 0 (by omega)
    have qr : Hid (∀ j, j < n - 1 → w2.cell? ⟨w.heap.size, 1 + j, none⟩ = some (.float .f64 ((zs.drop 1).getD j 0))) := by
      intro j hj
      rw [hb.cell (by simp), hC.cell w (1 + j) (by omega)]
      simp [List.getD, Nat.add_comm]
    have HY : Hid (cls y = fop .add (cls z0) (fop .mul (cls x) (hornerC (cls x) ((zs.drop 1).map cls)))) := by
      rw [hz0, hy]
      match zs, hl with
      | z :: z' :: r, _ => rfl
      | [z], hl => exact absurd hl.symm h1
      | [], hl => simp at hl; omega
    have hsz : w.heap.size < w2.heap.size := by have := hb.size; simp at this; omega
    clear hy hz0
    have hadd := run_add
    have hmul := run_mul
    go_wp2_with fail
    refine (zzhorner_any x w.heap.size 1 (n - 1) (n - 1) (zs.drop 1) _ (by simp; omega) (by omega) (by omega) hsz qr.out).mono ?_
    rintro e w3 ⟨y', rfl, hy', hb'⟩
    have q1 : w3.cell? ⟨w.heap.size, 0, none⟩ = some (.float .f64 z0) := by rw [hb'.cell (by exact hsz)]; exact q0
    have HY' : Hid _ := hy'
    clear hy' q0
    go_wp2_with fail
    refine (fSame_yes _ _ ?_ _).mono ?_
    · rw [HY.out, cls_add, cls_mul, HY'.out]
    rintro e w' ⟨rfl, rfl⟩
    go_wp2
    go_ret
    exact ⟨rfl, fltW_below (fltW_below ((((Below.refl _ _).alloc (Nat.le_refl _) _).trans (hb.mono (by simp))).trans (hb'.mono (Nat.le_of_lt hsz))) _ _ _) _ _ _⟩

end Go.Proofs.Qxb6604785a
