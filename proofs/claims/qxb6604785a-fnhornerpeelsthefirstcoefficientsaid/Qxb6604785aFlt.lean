/-
  Float arithmetic at the walk: what '+' and '*' of two float64 give, a NaN (whose bits the tape says) among the answers.
-/
import Derived.Test.Qxb6604785aRows
import Derived.WalkKit
import Derived.WalkSpells
import Derived.WalkLawsBesides
import Derived.Laws.FloatArith
namespace Go.Proofs.Qxb6604785a
open Go.RowKit

def isN (b : Nat) : Bool := (Ieee.double.read b).isNaN

/-- What a word says of the number: nothing where it is a NaN. -/
def cls (b : Nat) : Option Nat := if isN b then none else some b

def fop (op : BinOp) (a b : Option Nat) : Option Nat := a.bind fun x => b.bind fun y => floatBits op .f64 x y

def fltR (op : BinOp) (w : World) (x y : Nat) : Nat :=
  match floatBits op .f64 x y with
  | some r => r
  | none => (Question.nanBits .f64 x y).cut (w.tape w.drawn (.nanBits .f64 x y))

def fltW (op : BinOp) (w : World) (x y : Nat) : World :=
  match floatBits op .f64 x y with
  | some _ => w
  | none => w.drew

theorem run_add (w : World) (x y : Nat) : (binOp .add 22 (.float .f64 x) (.float .f64 y)).run Try.prog w = .ok (.float .f64 (fltR .add w x y)) (fltW .add w x y) := by
  unfold fltR fltW
  cases h : floatBits .add .f64 x y with
  | some r => exact run_float_arith w .add 22 .f64 x y r h
  | none =>
    have h' : Ieee.double.add x y = none := h
    simp [binOp, Op.floatArith, FloatKind.format, h', Question.forced]

theorem run_mul (w : World) (x y : Nat) : (binOp .mul 22 (.float .f64 x) (.float .f64 y)).run Try.prog w = .ok (.float .f64 (fltR .mul w x y)) (fltW .mul w x y) := by
  unfold fltR fltW
  cases h : floatBits .mul .f64 x y with
  | some r => exact run_float_arith w .mul 22 .f64 x y r h
  | none =>
    have h' : Ieee.double.mul x y = none := h
    simp [binOp, Op.floatArith, FloatKind.format, h', Question.forced]

theorem fltW_below {B : Nat} {a w : World} (h : Below B a w) (op : BinOp) (x y : Nat) : Below B a (fltW op w x y) := by
  unfold fltW
  split
  · exact h
  · exact h.drew

theorem fltW_cell (op : BinOp) (w : World) (x y : Nat) (a : Addr) : (fltW op w x y).cell? a = w.cell? a := by
  unfold fltW
  split
  · rfl
  · rfl

theorem read_word_finite (neg : Bool) (r : Nat) (h : r ≤ Ieee.double.infRung) : (Ieee.double.read (Ieee.double.word neg r)).isNaN = false := by
  have h1 : Ieee.double.infRung = 9218868437227405312 := by decide
  have h2 : Ieee.double.signWeight = 9223372036854775808 := by decide
  have h3 : Ieee.double.word neg r % 9223372036854775808 = r := by
    unfold Ieee.Format.word
    rw [h2]
    split <;> omega
  unfold Ieee.Format.read
  rw [h1, h2, h3]
  dsimp only
  split
  · rfl
  · split
    · rfl
    · split
      · rfl
      · omega

theorem write_finite (d : Ieee.Datum) (h : d.isNaN = false) : (Ieee.double.read (Ieee.double.write d)).isNaN = false := by
  cases d with
  | number s m e =>
    show (Ieee.double.read (Ieee.double.nearest s m e)).isNaN = false
    unfold Ieee.Format.nearest
    dsimp only
    split
    · exact read_word_finite _ _ (Nat.zero_le _)
    · exact read_word_finite _ _ (Nat.min_le_right _ _)
  | infinity s => exact read_word_finite _ _ (Nat.le_refl _)
  | nan s t => cases h

theorem sum_finite {a b d : Ieee.Datum} (h : a.sum b = some d) : d.isNaN = false := by
  cases a <;> cases b <;> simp [Ieee.Datum.sum] at h
  · subst h; rfl
  · subst h; rfl
  · subst h; rfl
  · obtain ⟨_, rfl⟩ := h; rfl

theorem product_finite {a b d : Ieee.Datum} (h : a.product b = some d) : d.isNaN = false := by
  cases a <;> cases b <;> simp [Ieee.Datum.product] at h
  · subst h; rfl
  · obtain ⟨_, rfl⟩ := h; rfl
  · obtain ⟨_, rfl⟩ := h; rfl
  · subst h; rfl

theorem sum_nan {a b : Ieee.Datum} (h : a.isNaN = true ∨ b.isNaN = true) : a.sum b = none := by
  cases a <;> cases b <;> simp_all [Ieee.Datum.sum, Ieee.Datum.isNaN]

theorem product_nan {a b : Ieee.Datum} (h : a.isNaN = true ∨ b.isNaN = true) : a.product b = none := by
  cases a <;> cases b <;> simp_all [Ieee.Datum.product, Ieee.Datum.isNaN]

theorem nan_cut (x y t : Nat) : isN ((Question.nanBits .f64 x y).cut t) = true := by
  show isN ((t % 2) * 2 ^ 63 + 0x7ff0000000000000 + 1 + (t / 2) % (2 ^ 52 - 1)) = true
  have h1 : Ieee.double.infRung = 9218868437227405312 := by decide
  have h2 : Ieee.double.signWeight = 9223372036854775808 := by decide
  have h4 : Ieee.double.binade = 4503599627370496 := by decide
  have hb : (t / 2) % (2 ^ 52 - 1) < 4503599627370495 := Nat.mod_lt _ (by decide)
  have hu : t % 2 < 2 := Nat.mod_lt _ (by decide)
  generalize (t / 2) % (2 ^ 52 - 1) = v at hb ⊢
  generalize t % 2 = u at hu ⊢
  have e : (u * 2 ^ 63 + 0x7ff0000000000000 + 1 + v) % 9223372036854775808 = 0x7ff0000000000000 + 1 + v := by omega
  unfold isN Ieee.Format.read
  rw [h1, h2, h4, e]
  dsimp only
  rw [if_neg (by omega), if_neg (by omega), if_neg (by omega)]
  rfl

theorem cls_add (w : World) (x y : Nat) : cls (fltR .add w x y) = fop .add (cls x) (cls y) := by
  by_cases hn : isN x = true ∨ isN y = true
  · have h : floatBits .add .f64 x y = none := by
      show ((Ieee.double.read x).sum (Ieee.double.read y)).map _ = none
      rw [sum_nan hn]; rfl
    unfold fltR
    rw [h]
    dsimp only
    have e : cls ((Question.nanBits .f64 x y).cut (w.tape w.drawn (.nanBits .f64 x y))) = none := by unfold cls; rw [if_pos (nan_cut _ _ _)]
    rw [e]
    rcases hn with hn | hn
    · simp [fop, cls, hn]
    · simp only [fop, cls, hn, if_true]
      split <;> rfl
  · simp only [not_or, Bool.not_eq_true] at hn
    have e1 : cls x = some x := by simp [cls, hn.1]
    have e2 : cls y = some y := by simp [cls, hn.2]
    rw [e1, e2]
    show _ = floatBits .add .f64 x y
    cases h : floatBits .add .f64 x y with
    | none =>
      unfold fltR
      rw [h]
      dsimp only
      unfold cls
      rw [if_pos (nan_cut _ _ _)]
    | some r =>
      unfold fltR
      rw [h]
      dsimp only
      have h' : ((Ieee.double.read x).sum (Ieee.double.read y)).map Ieee.double.write = some r := h
      obtain ⟨d, hd, rfl⟩ := Option.map_eq_some_iff.1 h'
      have := write_finite d (sum_finite hd)
      simp [cls, isN, this]

theorem cls_mul (w : World) (x y : Nat) : cls (fltR .mul w x y) = fop .mul (cls x) (cls y) := by
  by_cases hn : isN x = true ∨ isN y = true
  · have h : floatBits .mul .f64 x y = none := by
      show ((Ieee.double.read x).product (Ieee.double.read y)).map _ = none
      rw [product_nan hn]; rfl
    unfold fltR
    rw [h]
    dsimp only
    have e : cls ((Question.nanBits .f64 x y).cut (w.tape w.drawn (.nanBits .f64 x y))) = none := by unfold cls; rw [if_pos (nan_cut _ _ _)]
    rw [e]
    rcases hn with hn | hn
    · simp [fop, cls, hn]
    · simp only [fop, cls, hn, if_true]
      split <;> rfl
  · simp only [not_or, Bool.not_eq_true] at hn
    have e1 : cls x = some x := by simp [cls, hn.1]
    have e2 : cls y = some y := by simp [cls, hn.2]
    rw [e1, e2]
    show _ = floatBits .mul .f64 x y
    cases h : floatBits .mul .f64 x y with
    | none =>
      unfold fltR
      rw [h]
      dsimp only
      unfold cls
      rw [if_pos (nan_cut _ _ _)]
    | some r =>
      unfold fltR
      rw [h]
      dsimp only
      have h' : ((Ieee.double.read x).product (Ieee.double.read y)).map Ieee.double.write = some r := h
      obtain ⟨d, hd, rfl⟩ := Option.map_eq_some_iff.1 h'
      have := write_finite d (product_finite hd)
      simp [cls, isN, this]

theorem order_self {x : Nat} (h : isN x = false) : Ieee.double.order x x = some .eq := by
  unfold Ieee.Format.order
  unfold isN at h
  cases hx : Ieee.double.read x with
  | number s m e => simp [Ieee.Datum.order]
  | infinity s => simp [Ieee.Datum.order]
  | nan s t => rw [hx] at h; cases h

theorem order_nan {x y : Nat} (h : isN x = true) : Ieee.double.order x y = none := by
  unfold Ieee.Format.order
  unfold isN at h
  cases hx : Ieee.double.read x with
  | number s m e => rw [hx] at h; cases h
  | infinity s => rw [hx] at h; cases h
  | nan s t => rfl

/-- Horner's scheme over what the words say. -/
def hornerC (x : Option Nat) : List (Option Nat) → Option Nat
  | [] => none
  | [c] => c
  | c :: d :: cs => fop .add c (fop .mul x (hornerC x (d :: cs)))

theorem hornerC_cons (x c : Option Nat) (cs : List (Option Nat)) (h : cs ≠ []) : hornerC x (c :: cs) = fop .add c (fop .mul x (hornerC x cs)) := by
  cases cs with
  | nil => exact absurd rfl h
  | cons d cs => rfl

end Go.Proofs.Qxb6604785a
