/-
  jsontext.AppendString (function 10), walked.
-/
import Derived.Test.Qxb6604270aApp
namespace Go.Proofs.Qxb6604270a
open Go.RowKit

theorem esc_34 : esc 34 = [92, 34] := rfl
theorem esc_low {c d : Int} (h : c < 16) (h8 : c ≠ 8) (h9 : c ≠ 9) (h10 : c ≠ 10) (h12 : c ≠ 12) (h13 : c ≠ 13) (hd : hexL c = d) : esc c = [92, 117, 48, 48, 48, d] := by
  unfold esc
  rw [if_neg (by omega), if_neg (by omega), if_neg h8, if_neg h9, if_neg h10, if_neg h12, if_neg h13, if_pos h, hd]
theorem esc_mid {c d : Int} (h0 : ¬ c < 16) (h : c < 32) (hd : hexL (c - 16) = d) : esc c = [92, 117, 48, 48, 49, d] := by
  unfold esc
  rw [if_neg (by omega), if_neg (by omega), if_neg (by omega), if_neg (by omega), if_neg (by omega), if_neg (by omega), if_neg (by omega), if_neg h0, if_pos h, hd]

theorem esc_low0 {c d : Nat} (h : (c : Int) < 16) (h8 : (c : Int) ≠ 8) (h9 : (c : Int) ≠ 9) (h10 : (c : Int) ≠ 10) (h12 : (c : Int) ≠ 12) (h13 : (c : Int) ≠ 13) (hd : d = c % 16) (hd16 : d < 16) :
    esc (c : Int) = [(92 : Int), 117, 48, 48, ((hexDigits[0]'(by decide)).toNat : Int), ((hexDigits[d]'hd16).toNat : Int)] := by
  rw [hexDigits_get d hd16]
  exact esc_low h h8 h9 h10 h12 h13 (by congr 1; omega)
theorem esc_mid0 {c d : Nat} (h0 : ¬ (c : Int) < 16) (h : (c : Int) < 32) (hd : d = c % 16) (hd16 : d < 16) :
    esc (c : Int) = [(92 : Int), 117, 48, 48, ((hexDigits[1]'(by decide)).toNat : Int), ((hexDigits[d]'hd16).toNat : Int)] := by
  rw [hexDigits_get d hd16]
  exact esc_mid h0 h (by congr 1; omega)

set_option maxHeartbeats 4000000 in
theorem appendString_any (v : Value) (bs : List Int) (s : ByteArray) (w : World) (hs : s.size ≤ 1048576) (hb : bs.length ≤ 1048576) (hown : w.ownsRow 0 5 1 v bs.length (cells bs)) :
    Calls Try.prog 10 #[v, .string s] w fun e w' => ∃ v', e = .returned v' ∧ Buf w v.ownBlock v' (bs ++ [34] ++ escs (bytesI s) ++ [34]) w' := by
  have hB := Buf.start hown
  go_enter Try.func10, Try.ntmps10
  go_wp2_with (at_builtin; refine wpList_bytes rfl (.tmp 8) (.tmp 9) rfl _ _ rfl _ _ _ hB [34] 1 rfl rfl _ rfl (by omega) ?_; intro v1 w1 hB1)
  go_loopw [0, 5, 6] (fun d r i wr => ∃ (k run : Nat) (D : List Int), i = .int .i64 k ∧ r = .int .i64 run ∧ Run (bytesI s) D run k ∧ Buf w v.ownBlock d (bs ++ [34] ++ D) wr) (fun _ _ i _ => s.size - (intOf i).toNat)
  case atStart => exact ⟨0, 0, [], rfl, rfl, Run.start _, by simpa using hB1⟩
  case round =>
    obtain ⟨k, run, D, rfl, rfl, hR, hBr⟩ := hrel
    have hle := hR.2.1
    have hrk := hR.1
    have hlen := hR.len
    rw [bytesI_length] at hle
    have hD : D.length ≤ 6291456 := by omega
    by_cases hlt : k < s.size
    · have h256 : s[k].toNat < 256 := s[k].toNat_lt
      have hX : (bytesI (s.extract run k)).length ≤ 1048576 := by rw [bytesI_length]; simp; omega
      by_cases hp : (32 : Int) ≤ (s[k].toNat : Int)
      · by_cases hc : (s[k].toNat : Int) = 34
        · as_aux_lemma =>
          go_wp2_with (first | (at_builtin; refine wpList_str rfl (.tmp 30) (.tmp 34) rfl _ _ rfl _ _ _ hBr _ rfl (by simp; omega) ?_; intro v2 w2 hB2) | (at_builtin; refine wpList_bytes rfl (.tmp 49) (.tmp 51) rfl _ _ rfl _ _ _ hB2 [92, 34] 2 rfl rfl _ rfl (by simp; omega) ?_; intro v3 w3 hB3))
          go_roundw
          case rel => exact rel_esc hR hlt (by rw [hc]; rfl) hB3
          case measure => simp [intOf]; omega
        · by_cases hc2 : (s[k].toNat : Int) = 92
          · as_aux_lemma =>
            go_wp2_with (first | (at_builtin; refine wpList_str rfl (.tmp 30) (.tmp 34) rfl _ _ rfl _ _ _ hBr _ rfl (by simp; omega) ?_; intro v2 w2 hB2) | (at_builtin; refine wpList_bytes rfl (.tmp 49) (.tmp 51) rfl _ _ rfl _ _ _ hB2 [92, 92] 2 rfl rfl _ rfl (by simp; omega) ?_; intro v3 w3 hB3))
            go_roundw
            case rel => exact rel_esc hR hlt (by rw [hc2]; rfl) hB3
            case measure => simp [intOf]; omega
          · have n34 : ((s[k].toNat : Int) != 34) = true := by simpa using hc
            have n92 : ((s[k].toNat : Int) != 92) = true := by simpa using hc2
            as_aux_lemma =>
            go_wp2_with fail
            go_roundw
            case rel => exact rel_plain hR hlt hp hc hc2 hBr
            case measure => simp [intOf]; omega
      · by_cases h8 : (s[k].toNat : Int) = 8
        · as_aux_lemma =>
          go_wp2_with (first | (at_builtin; refine wpList_str rfl (.tmp 30) (.tmp 34) rfl _ _ rfl _ _ _ hBr _ rfl (by simp; omega) ?_; intro v2 w2 hB2) | (at_builtin; refine wpList_str rfl (.tmp 55) (.const (.string ⟨#[92, 98]⟩)) rfl _ _ rfl _ _ _ hB2 ⟨#[92, 98]⟩ rfl (by simp [ByteArray.size]; omega) ?_; intro v3 w3 hB3))
          go_roundw
          case rel => exact rel_esc hR hlt (by rw [h8]; rfl) hB3
          case measure => simp [intOf]; omega
        · by_cases h9 : (s[k].toNat : Int) = 9
          · as_aux_lemma =>
            go_wp2_with (first | (at_builtin; refine wpList_str rfl (.tmp 30) (.tmp 34) rfl _ _ rfl _ _ _ hBr _ rfl (by simp; omega) ?_; intro v2 w2 hB2) | (at_builtin; refine wpList_str rfl (.tmp 59) (.const (.string ⟨#[92, 116]⟩)) rfl _ _ rfl _ _ _ hB2 ⟨#[92, 116]⟩ rfl (by simp [ByteArray.size]; omega) ?_; intro v3 w3 hB3))
            go_roundw
            case rel => exact rel_esc hR hlt (by rw [h9]; rfl) hB3
            case measure => simp [intOf]; omega
          · by_cases h10 : (s[k].toNat : Int) = 10
            · as_aux_lemma =>
              go_wp2_with (first | (at_builtin; refine wpList_str rfl (.tmp 30) (.tmp 34) rfl _ _ rfl _ _ _ hBr _ rfl (by simp; omega) ?_; intro v2 w2 hB2) | (at_builtin; refine wpList_str rfl (.tmp 63) (.const (.string ⟨#[92, 110]⟩)) rfl _ _ rfl _ _ _ hB2 ⟨#[92, 110]⟩ rfl (by simp [ByteArray.size]; omega) ?_; intro v3 w3 hB3))
              go_roundw
              case rel => exact rel_esc hR hlt (by rw [h10]; rfl) hB3
              case measure => simp [intOf]; omega
            · by_cases h12 : (s[k].toNat : Int) = 12
              · as_aux_lemma =>
                go_wp2_with (first | (at_builtin; refine wpList_str rfl (.tmp 30) (.tmp 34) rfl _ _ rfl _ _ _ hBr _ rfl (by simp; omega) ?_; intro v2 w2 hB2) | (at_builtin; refine wpList_str rfl (.tmp 67) (.const (.string ⟨#[92, 102]⟩)) rfl _ _ rfl _ _ _ hB2 ⟨#[92, 102]⟩ rfl (by simp [ByteArray.size]; omega) ?_; intro v3 w3 hB3))
                go_roundw
                case rel => exact rel_esc hR hlt (by rw [h12]; rfl) hB3
                case measure => simp [intOf]; omega
              · by_cases h13 : (s[k].toNat : Int) = 13
                · as_aux_lemma =>
                  go_wp2_with (first | (at_builtin; refine wpList_str rfl (.tmp 30) (.tmp 34) rfl _ _ rfl _ _ _ hBr _ rfl (by simp; omega) ?_; intro v2 w2 hB2) | (at_builtin; refine wpList_str rfl (.tmp 71) (.const (.string ⟨#[92, 114]⟩)) rfl _ _ rfl _ _ _ hB2 ⟨#[92, 114]⟩ rfl (by simp [ByteArray.size]; omega) ?_; intro v3 w3 hB3))
                  go_roundw
                  case rel => exact rel_esc hR hlt (by rw [h13]; rfl) hB3
                  case measure => simp [intOf]; omega
                · obtain ⟨d, hd⟩ : ∃ d : Nat, d = s[k].toNat % 16 := ⟨_, rfl⟩
                  have hd16 : d < 16 := by omega
                  have hand : bits BinOp.and IntKind.u8 (s[k].toNat : Int) 15 = (d : Int) := by rw [hd]; exact and15_u8 _ h256
                  have hdI : (d : Int) < 16 := by omega
                  by_cases h16 : (s[k].toNat : Int) < 16
                  · have hq : (s[k].toNat : Int) / 16 = 0 := by omega
                    have HD : Hid (d = s[k].toNat % 16) := hd
                    clear hd
                    go_wp2_with (at_builtin; refine wpList_str rfl (.tmp 30) (.tmp 34) rfl _ _ rfl _ _ _ hBr _ rfl (by simp; omega) ?_; intro v2 w2 hB2)
                    go_region_law (refine step_bytes rfl (.tmp 37) (.tmp 44) rfl _ _ (by simp [Act.eval]) _ _ _ hB2 [92, 117, 48, 48, ((hexDigits[0]'(by decide)).toNat : Int), ((hexDigits[d]'hd16).toNat : Int)] 6 rfl (by simp [Act.eval]) _ rfl (by simp; omega) ?_; intro v3 w3 hB3)
                    all_goals
                      go_wp2
                      go_roundw
                      case rel => exact rel_esc hR hlt (esc_low0 h16 h8 h9 h10 h12 h13 HD.out hd16) hB3
                      case measure => simp [intOf]; omega
                  · have hq : (s[k].toNat : Int) / 16 = 1 := by omega
                    have HD : Hid (d = s[k].toNat % 16) := hd
                    clear hd
                    go_wp2_with (at_builtin; refine wpList_str rfl (.tmp 30) (.tmp 34) rfl _ _ rfl _ _ _ hBr _ rfl (by simp; omega) ?_; intro v2 w2 hB2)
                    go_region_law (refine step_bytes rfl (.tmp 37) (.tmp 44) rfl _ _ (by simp [Act.eval]) _ _ _ hB2 [92, 117, 48, 48, ((hexDigits[1]'(by decide)).toNat : Int), ((hexDigits[d]'hd16).toNat : Int)] 6 rfl (by simp [Act.eval]) _ rfl (by simp; omega) ?_; intro v3 w3 hB3)
                    all_goals
                      go_wp2
                      go_roundw
                      case rel => exact rel_esc hR hlt (esc_mid0 (by omega) (by omega) HD.out hd16) hB3
                      case measure => simp [intOf]; omega
    · have hXe : (bytesI (s.extract run s.size)).length ≤ 1048576 := by rw [bytesI_length]; simp; omega
      go_wp2_with (first | (at_builtin; refine wpList_str rfl (.tmp 75) (.tmp 78) rfl _ _ rfl _ _ _ hBr (s.extract run s.size) rfl (by simp; omega) ?_; intro v2 w2 hB2) | (at_builtin; refine wpList_bytes rfl (.tmp 80) (.tmp 81) rfl _ _ rfl _ _ _ hB2 [34] 1 rfl rfl _ rfl (by simp; omega) ?_; intro v3 w3 hB3))
      go_ret
      exact ⟨v3, rfl, rel_done hR hlt hB3⟩
end Go.Proofs.Qxb6604270a
