/-
  Reading hexadecimal digits, plainly.
-/
namespace Go.Proofs.Qxb6604270a

def dig (c : Int) : Option Int :=
  if 48 ≤ c ∧ c ≤ 57 then some (c - 48) else if 97 ≤ c ∧ c ≤ 102 then some (c - 97 + 10) else if 65 ≤ c ∧ c ≤ 70 then some (c - 65 + 10) else none

def hexFold : List Int → Int → Option Int
  | [], r => some r
  | c :: cs, r => match dig c with
    | none => none
    | some d => hexFold cs (r * 16 + d)

theorem dig_lo {c : Int} (h1 : 48 ≤ c) (h2 : c ≤ 57) : dig c = some (c - 48) := by unfold dig; rw [if_pos ⟨h1, h2⟩]
theorem dig_af {c : Int} (h1 : 97 ≤ c) (h2 : c ≤ 102) : dig c = some (c - 97 + 10) := by unfold dig; rw [if_neg (by omega), if_pos ⟨h1, h2⟩]
theorem dig_AF {c : Int} (h1 : 65 ≤ c) (h2 : c ≤ 70) : dig c = some (c - 65 + 10) := by unfold dig; rw [if_neg (by omega), if_neg (by omega), if_pos ⟨h1, h2⟩]
theorem dig_no {c : Int} (h1 : ¬ (48 ≤ c ∧ c ≤ 57)) (h2 : ¬ (97 ≤ c ∧ c ≤ 102)) (h3 : ¬ (65 ≤ c ∧ c ≤ 70)) : dig c = none := by unfold dig; rw [if_neg h1, if_neg h2, if_neg h3]

theorem hexFold_cons_some {c r d : Int} {cs : List Int} (h : dig c = some d) : hexFold (c :: cs) r = hexFold cs (r * 16 + d) := by simp only [hexFold, h]
theorem hexFold_cons_none {c r : Int} {cs : List Int} (h : dig c = none) : hexFold (c :: cs) r = none := by simp only [hexFold, h]

end Go.Proofs.Qxb6604270a
