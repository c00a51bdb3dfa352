/-
  zzAppendEscapedByte (11), walked: onto a slice that the caller owns it appends one byte through the escape table.
-/
import Derived.Test.Qxb6604270aNil
namespace Go.Proofs.Qxb6604270a
open Go.RowKit

set_option maxHeartbeats 1000000 in
theorem escByte_any (v : Value) (bs : List Int) (c : Int) (w : World) (h0 : 0 ≤ c) (h1 : c < 256) (hb : bs.length ≤ 100000000) (W0 : World) (r : Option Nat) (hB : Buf W0 r v bs w) :
    Calls Try.prog 11 #[v, .int .u8 c] w fun e w' => ∃ v', e = .returned v' ∧ Buf W0 r v' (bs ++ esc c) w' := by
  by_cases h34 : c = 34
  · subst h34
    go_enter Try.func11, Try.ntmps11
    go_wp2_with (at_builtin; refine wpList_bytes rfl (.tmp 8) (.tmp 9) rfl _ _ rfl _ _ _ hB [92, 34] 2 rfl rfl _ rfl (by omega) ?_; intro v1 w1 hB1)
    go_ret
    exact ⟨v1, rfl, hB1⟩
  by_cases h92 : c = 92
  · subst h92
    go_enter Try.func11, Try.ntmps11
    go_wp2_with (at_builtin; refine wpList_bytes rfl (.tmp 13) (.tmp 14) rfl _ _ rfl _ _ _ hB [92, 92] 2 rfl rfl _ rfl (by omega) ?_; intro v1 w1 hB1)
    go_ret
    exact ⟨v1, rfl, hB1⟩
  by_cases h8 : c = 8
  · subst h8
    go_enter Try.func11, Try.ntmps11
    go_wp2_with (at_builtin; refine wpList_bytes rfl (.tmp 18) (.tmp 19) rfl _ _ rfl _ _ _ hB [92, 98] 2 rfl rfl _ rfl (by omega) ?_; intro v1 w1 hB1)
    go_ret
    exact ⟨v1, rfl, hB1⟩
  by_cases h9 : c = 9
  · subst h9
    go_enter Try.func11, Try.ntmps11
    go_wp2_with (at_builtin; refine wpList_bytes rfl (.tmp 23) (.tmp 24) rfl _ _ rfl _ _ _ hB [92, 116] 2 rfl rfl _ rfl (by omega) ?_; intro v1 w1 hB1)
    go_ret
    exact ⟨v1, rfl, hB1⟩
  by_cases h10 : c = 10
  · subst h10
    go_enter Try.func11, Try.ntmps11
    go_wp2_with (at_builtin; refine wpList_bytes rfl (.tmp 28) (.tmp 29) rfl _ _ rfl _ _ _ hB [92, 110] 2 rfl rfl _ rfl (by omega) ?_; intro v1 w1 hB1)
    go_ret
    exact ⟨v1, rfl, hB1⟩
  by_cases h12 : c = 12
  · subst h12
    go_enter Try.func11, Try.ntmps11
    go_wp2_with (at_builtin; refine wpList_bytes rfl (.tmp 33) (.tmp 34) rfl _ _ rfl _ _ _ hB [92, 102] 2 rfl rfl _ rfl (by omega) ?_; intro v1 w1 hB1)
    go_ret
    exact ⟨v1, rfl, hB1⟩
  by_cases h13 : c = 13
  · subst h13
    go_enter Try.func11, Try.ntmps11
    go_wp2_with (at_builtin; refine wpList_bytes rfl (.tmp 38) (.tmp 39) rfl _ _ rfl _ _ _ hB [92, 114] 2 rfl rfl _ rfl (by omega) ?_; intro v1 w1 hB1)
    go_ret
    exact ⟨v1, rfl, hB1⟩
  by_cases h16 : c < 16
  · by_cases h10' : c < 10
    · go_enter Try.func11, Try.ntmps11
      go_wp2_with (first | (at_builtin; refine wpList_bytes rfl (.tmp 43) (.tmp 46) rfl _ _ rfl _ _ _ hB [92, 117, 48, 48, 48, 48 + c] 6 rfl rfl _ rfl (by omega) ?_; intro v1 w1 hB1) | go_in)
      go_ret
      exact ⟨v1, rfl, by rw [esc_low h16 h8 h9 h10 h12 h13 (show hexL c = 48 + c from if_pos h10')]; exact hB1⟩
    · go_enter Try.func11, Try.ntmps11
      go_wp2_with (first | (at_builtin; refine wpList_bytes rfl (.tmp 43) (.tmp 46) rfl _ _ rfl _ _ _ hB [92, 117, 48, 48, 48, 97 + (c - 10)] 6 rfl rfl _ rfl (by omega) ?_; intro v1 w1 hB1) | go_in)
      go_ret
      exact ⟨v1, rfl, by rw [esc_low h16 h8 h9 h10 h12 h13 (show hexL c = 97 + (c - 10) from if_neg (by omega))]; exact hB1⟩
  by_cases h32 : c < 32
  · by_cases h26 : c - 16 < 10
    · go_enter Try.func11, Try.ntmps11
      go_wp2_with (first | (at_builtin; refine wpList_bytes rfl (.tmp 50) (.tmp 54) rfl _ _ rfl _ _ _ hB [92, 117, 48, 48, 49, 48 + (c - 16)] 6 rfl rfl _ rfl (by omega) ?_; intro v1 w1 hB1) | go_in)
      go_ret
      exact ⟨v1, rfl, by rw [esc_mid (by omega) h32 (show hexL (c - 16) = 48 + (c - 16) from if_pos h26)]; exact hB1⟩
    · go_enter Try.func11, Try.ntmps11
      go_wp2_with (first | (at_builtin; refine wpList_bytes rfl (.tmp 50) (.tmp 54) rfl _ _ rfl _ _ _ hB [92, 117, 48, 48, 49, 97 + (c - 16 - 10)] 6 rfl rfl _ rfl (by omega) ?_; intro v1 w1 hB1) | go_in)
      go_ret
      exact ⟨v1, rfl, by rw [esc_mid (by omega) h32 (show hexL (c - 16) = 97 + (c - 16 - 10) from if_neg (by omega))]; exact hB1⟩
  go_enter Try.func11, Try.ntmps11
  go_wp2_with (first | (at_builtin; refine wpList_bytes rfl (.tmp 56) (.tmp 58) rfl _ _ rfl _ _ _ hB [c] 1 rfl rfl _ rfl (by omega) ?_; intro v1 w1 hB1))
  go_ret
  exact ⟨v1, rfl, by rw [esc_plain (by omega) h34 h92]; exact hB1⟩
end Go.Proofs.Qxb6604270a
