/-
  The law HexValueReadsEveryFourDigitSpelling (function 7), walked.
-/
import Derived.Test.Qxb6604270aHexWalk
namespace Go.Proofs.Qxb6604270a
open Go.RowKit

structure Spelt (n : Int) (k : Nat) (x0 x1 x2 x3 : Int) : Prop where
  d0 : 1 ≤ k → dig x0 = some (n / 4096 % 16)
  d1 : 2 ≤ k → dig x1 = some (n / 256 % 16)
  d2 : 3 ≤ k → dig x2 = some (n / 16 % 16)
  d3 : 4 ≤ k → dig x3 = some (n % 16)
  bd : ∀ x ∈ [x0, x1, x2, x3], 0 ≤ x ∧ x ≤ 255

def lowD : ByteArray := ⟨#[48, 49, 50, 51, 52, 53, 54, 55, 56, 57, 97, 98, 99, 100, 101, 102]⟩
def uppD : ByteArray := ⟨#[48, 49, 50, 51, 52, 53, 54, 55, 56, 57, 65, 66, 67, 68, 69, 70]⟩
theorem low_at : ∀ d : Fin 16, dig (((#[48, 49, 50, 51, 52, 53, 54, 55, 56, 57, 97, 98, 99, 100, 101, 102] : Array UInt8)[d.val].toNat : Int)) = some (d.val : Int) := by decide
theorem upp_at : ∀ d : Fin 16, dig (((#[48, 49, 50, 51, 52, 53, 54, 55, 56, 57, 65, 66, 67, 68, 69, 70] : Array UInt8)[d.val].toNat : Int)) = some (d.val : Int) := by decide
theorem low_dig (d : Nat) (h : d < 16) : dig ((lowD[d]'h).toNat : Int) = some (d : Int) := low_at ⟨d, h⟩
theorem upp_dig (d : Nat) (h : d < 16) : dig ((uppD[d]'h).toNat : Int) = some (d : Int) := upp_at ⟨d, h⟩
theorem byte_bd (b : UInt8) : 0 ≤ (b.toNat : Int) ∧ (b.toNat : Int) ≤ 255 := by have := b.toNat_lt; omega

theorem Spelt.zero (n : Int) : Spelt n 0 0 0 0 0 := ⟨by omega, by omega, by omega, by omega, by simp⟩
theorem Spelt.s0 {n x0 x1 x2 x3 d : Int} {b : UInt8} (h : Spelt n 0 x0 x1 x2 x3) (hb : dig (b.toNat : Int) = some d) (hd : d = n / 4096 % 16) : Spelt n 1 b.toNat x1 x2 x3 :=
  ⟨fun _ => by rw [hb, hd], by omega, by omega, by omega, by have := h.bd; have := byte_bd b; simp_all⟩
theorem Spelt.s1 {n x0 x1 x2 x3 d : Int} {b : UInt8} (h : Spelt n 1 x0 x1 x2 x3) (hb : dig (b.toNat : Int) = some d) (hd : d = n / 256 % 16) : Spelt n 2 x0 b.toNat x2 x3 :=
  ⟨fun _ => h.d0 (by omega), fun _ => by rw [hb, hd], by omega, by omega, by have := h.bd; have := byte_bd b; simp_all⟩
theorem Spelt.s2 {n x0 x1 x2 x3 d : Int} {b : UInt8} (h : Spelt n 2 x0 x1 x2 x3) (hb : dig (b.toNat : Int) = some d) (hd : d = n / 16 % 16) : Spelt n 3 x0 x1 b.toNat x3 :=
  ⟨fun _ => h.d0 (by omega), fun _ => h.d1 (by omega), fun _ => by rw [hb, hd], by omega, by have := h.bd; have := byte_bd b; simp_all⟩
theorem Spelt.s3 {n x0 x1 x2 x3 d : Int} {b : UInt8} (h : Spelt n 3 x0 x1 x2 x3) (hb : dig (b.toNat : Int) = some d) (hd : d = n % 16) : Spelt n 4 x0 x1 x2 b.toNat :=
  ⟨fun _ => h.d0 (by omega), fun _ => h.d1 (by omega), fun _ => h.d2 (by omega), fun _ => by rw [hb, hd], by have := h.bd; have := byte_bd b; simp_all⟩
theorem Spelt.reads {n x0 x1 x2 x3 : Int} (h : Spelt n 4 x0 x1 x2 x3) (h0 : 0 ≤ n) (h1 : n < 65536) : hexFold [x0, x1, x2, x3] 0 = some n := by
  rw [hexFold_cons_some (h.d0 (by omega)), hexFold_cons_some (h.d1 (by omega)), hexFold_cons_some (h.d2 (by omega)), hexFold_cons_some (h.d3 (by omega))]
  simp only [hexFold, Option.some.injEq]
  omega

theorem and15_u16 (x : Int) (h0 : 0 ≤ x) (h1 : x < 65536) : ∃ d : Nat, d < 16 ∧ (d : Int) = x % 16 ∧ bits BinOp.and IntKind.u16 x 15 = (d : Int) := by
  have := u16_and x 15 h0 h1 (by omega) (by omega)
  have e : (15 : Int).toNat = 15 := rfl
  rw [e, nat_mask4] at this
  exact ⟨x.toNat % 16, by omega, by omega, this⟩

set_option maxHeartbeats 1000000 in
theorem law7 (n m : Int) (hn0 : 0 ≤ n) (hn1 : n < 65536) (_hm0 : 0 ≤ m) (_hm1 : m < 256) (w : World) :
    Calls Try.prog 7 #[.int .u16 n, .int .u8 m] w fun e w' => e = .returned (.bool true) ∧ Below w.heap.size w w' := by
  go_enter Try.func7, Try.ntmps7
  go_wp2
  go_loopw [6] (fun i wr => ∃ (k : Nat) (x0 x1 x2 x3 : Int), k ≤ 4 ∧ i = .int .i64 k ∧ wr = w.alloc (.cells #[.int .u8 x0, .int .u8 x1, .int .u8 x2, .int .u8 x3] 36) ∧ Spelt n k x0 x1 x2 x3) (fun i _ => 4 - (intOf i).toNat)
  case atStart => exact ⟨0, 0, 0, 0, 0, by omega, rfl, rfl, Spelt.zero n⟩
  case round =>
    obtain ⟨k, x0, x1, x2, x3, hk, rfl, rfl, hS⟩ := hrel
    match k, hk with
    | 0, _ =>
      obtain ⟨d, hd16, hd, hand⟩ := and15_u16 (n / 4096) (by omega) (by omega)
      have HD : Hid ((d : Int) = n / 4096 % 16) := hd
      have hdI : (d : Int) < 16 := by omega
      clear hd
      go_wp2
      · go_roundw
        case rel => exact ⟨1, _, x1, x2, x3, by omega, by go_num, rfl, hS.s0 (upp_dig d hd16) HD.out⟩
        case measure => simp [intOf]
      · go_roundw
        case rel => exact ⟨1, _, x1, x2, x3, by omega, by go_num, rfl, hS.s0 (low_dig d hd16) HD.out⟩
        case measure => simp [intOf]
    | 1, _ =>
      obtain ⟨d, hd16, hd, hand⟩ := and15_u16 (n / 256) (by omega) (by omega)
      have HD : Hid ((d : Int) = n / 256 % 16) := hd
      have hdI : (d : Int) < 16 := by omega
      clear hd
      go_wp2
      · go_roundw
        case rel => exact ⟨2, x0, _, x2, x3, by omega, by go_num, rfl, hS.s1 (upp_dig d hd16) HD.out⟩
        case measure => simp [intOf]
      · go_roundw
        case rel => exact ⟨2, x0, _, x2, x3, by omega, by go_num, rfl, hS.s1 (low_dig d hd16) HD.out⟩
        case measure => simp [intOf]
    | 2, _ =>
      obtain ⟨d, hd16, hd, hand⟩ := and15_u16 (n / 16) (by omega) (by omega)
      have HD : Hid ((d : Int) = n / 16 % 16) := hd
      have hdI : (d : Int) < 16 := by omega
      clear hd
      go_wp2
      · go_roundw
        case rel => exact ⟨3, x0, x1, _, x3, by omega, by go_num, rfl, hS.s2 (upp_dig d hd16) HD.out⟩
        case measure => simp [intOf]
      · go_roundw
        case rel => exact ⟨3, x0, x1, _, x3, by omega, by go_num, rfl, hS.s2 (low_dig d hd16) HD.out⟩
        case measure => simp [intOf]
    | 3, _ =>
      obtain ⟨d, hd16, hd, hand⟩ := and15_u16 (n) (by omega) (by omega)
      have HD : Hid ((d : Int) = n % 16) := hd
      have hdI : (d : Int) < 16 := by omega
      clear hd
      go_wp2
      · go_roundw
        case rel => exact ⟨4, x0, x1, x2, _, by omega, by go_num, rfl, hS.s3 (upp_dig d hd16) HD.out⟩
        case measure => simp [intOf]
      · go_roundw
        case rel => exact ⟨4, x0, x1, x2, _, by omega, by go_num, rfl, hS.s3 (low_dig d hd16) HD.out⟩
        case measure => simp [intOf]
    | 4, _ =>
      have HR : Hid (hexFold [x0, x1, x2, x3] 0 = some n) := hS.reads hn0 hn1
      go_wp2_with fail
      refine (zz4 _ 0 _ [x0, x1, x2, x3] rfl _ ?_ hS.bd).mono ?_
      · intro j hj
        match j, hj with
        | 0, _ => simp
        | 1, _ => simp
        | 2, _ => simp
        | 3, _ => simp
      rw [HR.out]
      rintro e w' ⟨rfl, rfl⟩
      go_wp2_with fail
      refine (zzNot4 _ _ _ _ (by decide)).mono ?_
      rintro e w' ⟨rfl, rfl⟩
      go_wp2
      go_ret
      exact ⟨rfl, (Below.refl _ _).alloc (Nat.le_refl _) _⟩
end Go.Proofs.Qxb6604270a
