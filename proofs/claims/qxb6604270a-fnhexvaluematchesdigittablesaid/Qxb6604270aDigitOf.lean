/-
  zzHexDigitOf (18), walked.
-/
import Derived.Test.Qxb6604270aSpellWalk
namespace Go.Proofs.Qxb6604270a
open Go.RowKit

def dg (c : Int) : Int := (dig c).getD (-1)

def NoneTill (c : Int) (k : Nat) : Prop := ∀ (j : Nat) (h : j < 16), j < k → ((lowD[j]'h).toNat : Int) ≠ c ∧ ((uppD[j]'h).toNat : Int) ≠ c

theorem dig_found : ∀ c : Fin 256, (dig (c.val : Int) = none) ∨ ∃ j : Fin 16, (((#[48, 49, 50, 51, 52, 53, 54, 55, 56, 57, 97, 98, 99, 100, 101, 102] : Array UInt8)[j.val].toNat : Int) = (c.val : Int)) ∨ (((#[48, 49, 50, 51, 52, 53, 54, 55, 56, 57, 65, 66, 67, 68, 69, 70] : Array UInt8)[j.val].toNat : Int) = (c.val : Int)) := by
  decide +kernel

theorem NoneTill.none {c : Int} (h : NoneTill c 16) (h0 : 0 ≤ c) (h1 : c < 256) : dg c = -1 := by
  rcases dig_found ⟨c.toNat, by omega⟩ with e | ⟨j, e⟩
  · have ec : ((c.toNat : Nat) : Int) = c := by omega
    simp only [ec] at e
    unfold dg
    rw [e]; rfl
  · have ec : ((c.toNat : Nat) : Int) = c := by omega
    simp only [ec] at e
    have := h j.val j.isLt j.isLt
    rcases e with e | e
    · exact absurd e this.1
    · exact absurd e this.2

theorem dg_low {c : Int} {k : Nat} (h : k < 16) (e : ((lowD[k]'h).toNat : Int) = c) : dg c = k := by
  rw [← e]; unfold dg; rw [low_dig k h]; rfl
theorem dg_upp {c : Int} {k : Nat} (h : k < 16) (e : ((uppD[k]'h).toNat : Int) = c) : dg c = k := by
  rw [← e]; unfold dg; rw [upp_dig k h]; rfl

set_option maxHeartbeats 400000 in
theorem hexDigitOf_any (c : Int) (w : World) (h0 : 0 ≤ c) (h1 : c < 256) : Calls Try.prog 18 #[.int .u8 c] w fun e w' => e = .returned (.int .i64 (dg c)) ∧ w = w' := by
  go_enter Try.func18, Try.ntmps18
  go_wp2
  go_loop [3] (fun i => ∃ k : Nat, k ≤ 16 ∧ i = .int .i64 k ∧ NoneTill c k) (fun i => 16 - (intOf i).toNat)
  case atStart => exact ⟨0, by omega, rfl, fun j _ hj => by omega⟩
  case round =>
    obtain ⟨k, hk, rfl, hN⟩ := hrel
    by_cases hlt : k < 16
    · have hltI : (k : Int) < 16 := by omega
      by_cases hA : ((lowD[k]'hlt).toNat : Int) = c
      · have e := dg_low hlt hA
        have E : Hid (dg c = k) := e
        have hA' : (((⟨#[48, 49, 50, 51, 52, 53, 54, 55, 56, 57, 97, 98, 99, 100, 101, 102]⟩ : ByteArray)[k]'hlt).toNat : Int) = c := hA
        clear e hA
        go_wp2
        go_ret
        rw [E.out]
        exact ⟨rfl, rfl⟩
      · have hA' : ((((⟨#[48, 49, 50, 51, 52, 53, 54, 55, 56, 57, 97, 98, 99, 100, 101, 102]⟩ : ByteArray)[k]'hlt).toNat : Int) == c) = false := beq_eq_false_iff_ne.2 hA
        by_cases hU : ((uppD[k]'hlt).toNat : Int) = c
        · have e := dg_upp hlt hU
          have E : Hid (dg c = k) := e
          have hU' : ((((⟨#[48, 49, 50, 51, 52, 53, 54, 55, 56, 57, 65, 66, 67, 68, 69, 70]⟩ : ByteArray)[k]'hlt).toNat : Int) == c) = true := beq_iff_eq.2 hU
          clear e hU
          go_wp2
          go_ret
          rw [E.out]
          exact ⟨rfl, rfl⟩
        · have hU' : ((((⟨#[48, 49, 50, 51, 52, 53, 54, 55, 56, 57, 65, 66, 67, 68, 69, 70]⟩ : ByteArray)[k]'hlt).toNat : Int) == c) = false := beq_eq_false_iff_ne.2 hU
          have HN : Hid (NoneTill c (k + 1)) := fun j h hj => by
            by_cases e : j = k
            · subst e; exact ⟨hA, hU⟩
            · exact hN j h (by omega)
          clear hA hU
          go_wp2
          go_round
          case rel => exact ⟨k + 1, by omega, by go_num, HN.out⟩
          case measure => simp [intOf]; omega
    · obtain rfl : k = 16 := by omega
      have HN : Hid (dg c = -1) := hN.none h0 h1
      go_wp2
      go_ret
      rw [HN.out]
      exact ⟨rfl, rfl⟩
end Go.Proofs.Qxb6604270a
