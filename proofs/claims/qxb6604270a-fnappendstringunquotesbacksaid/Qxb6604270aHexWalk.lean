/-
  jsontext.hexValue (function 20) and its door ZZhexValue (17), walked.
-/
import Derived.Test.Qxb6604270aRows
import Derived.WalkKit
import Derived.WalkSpells
import Derived.WalkLawsBesides
import Derived.Test.Qxb6604270aHexPlain
namespace Go.Proofs.Qxb6604270a
open Go.RowKit

set_option maxHeartbeats 400000 in
theorem hexNot4 (a : Option Addr) (n c : Nat) (w : World) (h : n ≠ 4) :
    Calls Try.prog 20 #[.slice a n c] w fun e w' => e = .returned (.tuple #[.int .i32 0, .bool false]) ∧ w = w' := by
  have h' : ((n : Int) != 4) = true := by simp; omega
  go_enter Try.func20, Try.ntmps20
  go_wp2
  go_ret2
  exact ⟨rfl, rfl⟩

theorem i32_or4 (x y : Int) (hx0 : 0 ≤ x) (hx : x % 16 = 0) (hx1 : x < 2147483648) (h0 : 0 ≤ y) (h1 : y < 16) : bits .or .i32 x y = x + y :=
  bits_join .i32 31 (by decide) wraps_i32 4 x y hx0 hx hx1 h0 h1 (by omega)

theorem drop_at {cs : List Int} {k : Nat} (h : k < cs.length) : cs.drop k = cs.getD k 0 :: cs.drop (k + 1) := by
  rw [List.drop_eq_getElem_cons h]; simp [List.getD, h]

theorem hex_step {cs : List Int} {k : Nat} {rr c d : Int} (HH : hexFold (cs.drop k) rr = hexFold cs 0) (HC : c = cs.getD k 0) (hk : k < 4) (hl : cs.length = 4) (h0 : 0 ≤ rr) (h1 : rr < 16 ^ k) (hr : rr < 4096) (hd : dig c = some d) (hd0 : 0 ≤ d) (hd1 : d < 16) :
    ∃ (k1 : Nat) (r1 : Int), k1 ≤ 4 ∧ Value.int .i64 ((k : Int) + 1) = .int .i64 k1 ∧ Value.int .i32 (bits BinOp.or IntKind.i32 (rr * 16) d) = .int .i32 r1 ∧ 0 ≤ r1 ∧ r1 < 16 ^ k1 ∧ hexFold (cs.drop k1) r1 = hexFold cs 0 := by
  refine ⟨k + 1, rr * 16 + d, by omega, by go_num, ?_, by omega, ?_, ?_⟩
  · rw [i32_or4 _ _ (by omega) (by omega) (by omega) hd0 hd1]
  · rw [Int.pow_succ]; omega
  · rw [drop_at (by omega), ← HC, hexFold_cons_some hd] at HH
    exact HH

theorem hex_stop {cs : List Int} {k : Nat} {rr c : Int} (HH : hexFold (cs.drop k) rr = hexFold cs 0) (HC : c = cs.getD k 0) (hk : k < 4) (hl : cs.length = 4) (hd : dig c = none) : hexFold cs 0 = none := by
  rw [drop_at (by omega), ← HC, hexFold_cons_none hd] at HH
  exact HH.symm

theorem hex_end {cs : List Int} {k : Nat} {rr : Int} (HH : hexFold (cs.drop k) rr = hexFold cs 0) (hk : ¬ k < 4) (hl : cs.length = 4) : hexFold cs 0 = some rr := by
  rw [List.drop_of_length_le (by omega)] at HH
  exact HH.symm

set_option maxHeartbeats 1000000 in
theorem hex4 (g off cap : Nat) (cs : List Int) (hl : cs.length = 4) (w : World) (hc : ∀ j, j < 4 → w.cell? ⟨g, off + j, none⟩ = some (.int .u8 (cs.getD j 0))) (hb : ∀ c ∈ cs, 0 ≤ c ∧ c ≤ 255) :
    Calls Try.prog 20 #[.slice (some ⟨g, off, none⟩) 4 cap] w fun e w' => e = .returned (.tuple #[.int .i32 ((hexFold cs 0).getD 0), .bool (hexFold cs 0).isSome]) ∧ w = w' := by
  go_enter Try.func20, Try.ntmps20
  go_wp2
  go_loop [4, 13] (fun r i => ∃ (k : Nat) (rr : Int), k ≤ 4 ∧ i = .int .i64 k ∧ r = .int .i32 rr ∧ 0 ≤ rr ∧ rr < 16 ^ k ∧ hexFold (cs.drop k) rr = hexFold cs 0) (fun _ i => 4 - (intOf i).toNat)
  case atStart => exact ⟨0, 0, by omega, rfl, rfl, by omega, by omega, rfl⟩
  case round =>
    obtain ⟨k, rr, hk, rfl, rfl, h0, h1, hH⟩ := hrel
    by_cases hlt : k < 4
    · obtain ⟨c, hcc⟩ : ∃ c, c = cs.getD k 0 := ⟨_, rfl⟩
      have hq : w.cell? ⟨g, off + k, none⟩ = some (.int .u8 c) := by rw [hcc]; exact hc k hlt
      have hbd : 0 ≤ c ∧ c ≤ 255 := hb c (by rw [hcc]; simp [List.getD, show k < cs.length by omega])
      have HH : Hid (hexFold (cs.drop k) rr = hexFold cs 0) := hH
      have HC : Hid (c = cs.getD k 0) := hcc
      clear hH hcc hc hb
      obtain ⟨hb0, hb1⟩ := hbd
      have hr : rr < 4096 := by
        have : (16 : Int) ^ k ≤ 16 ^ 3 := by
          match k, hlt with
          | 0, _ => decide
          | 1, _ => decide
          | 2, _ => decide
          | 3, _ => decide
        omega
      go_wp2
      all_goals first
        | (go_round; (case rel => first | exact hex_step HH.out HC.out hlt hl h0 h1 hr (dig_lo (by omega) (by omega)) (by omega) (by omega) | exact hex_step HH.out HC.out hlt hl h0 h1 hr (dig_af (by omega) (by omega)) (by omega) (by omega) | exact hex_step HH.out HC.out hlt hl h0 h1 hr (dig_AF (by omega) (by omega)) (by omega) (by omega)); (case measure => simp [intOf]; omega))
        | (go_ret2; rw [hex_stop HH.out HC.out hlt hl (dig_no (by omega) (by omega) (by omega))]; exact ⟨rfl, rfl⟩)
    · have HE : Hid (hexFold cs 0 = some rr) := hex_end hH hlt hl
      clear hH hc hb
      go_wp2
      go_ret2
      rw [HE.out]
      exact ⟨rfl, rfl⟩

set_option maxHeartbeats 400000 in
theorem zzNot4 (a : Option Addr) (n c : Nat) (w : World) (h : n ≠ 4) :
    Calls Try.prog 17 #[.slice a n c] w fun e w' => e = .returned (.tuple #[.int .i32 0, .bool false]) ∧ w = w' := by
  go_enter Try.func17, Try.ntmps17
  go_wp2_with (go_at_call 20; refine (hexNot4 _ _ _ _ h).mono ?_; rintro e w' ⟨rfl, rfl⟩)
  go_ret2
  exact ⟨rfl, rfl⟩

set_option maxHeartbeats 400000 in
theorem zz4 (g off cap : Nat) (cs : List Int) (hl : cs.length = 4) (w : World) (hc : ∀ j, j < 4 → w.cell? ⟨g, off + j, none⟩ = some (.int .u8 (cs.getD j 0))) (hb : ∀ c ∈ cs, 0 ≤ c ∧ c ≤ 255) :
    Calls Try.prog 17 #[.slice (some ⟨g, off, none⟩) 4 cap] w fun e w' => e = .returned (.tuple #[.int .i32 ((hexFold cs 0).getD 0), .bool (hexFold cs 0).isSome]) ∧ w = w' := by
  go_enter Try.func17, Try.ntmps17
  go_wp2_with fail
  refine (hex4 g off cap cs hl w hc hb).mono ?_
  rintro e w' ⟨rfl, rfl⟩
  go_wp2
  go_ret2
  exact ⟨rfl, rfl⟩

end Go.Proofs.Qxb6604270a
