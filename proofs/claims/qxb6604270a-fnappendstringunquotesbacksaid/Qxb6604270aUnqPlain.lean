/-
  Where each byte of the quoted text lies, plainly.
-/
import Derived.Test.Qxb6604270aPlain
import Derived.Test.Qxb6604270aHexPlain
namespace Go.Proofs.Qxb6604270a

/-- Where the k-th byte's escape begins in the quoted text. -/
def at_ (l : List Int) (k : Nat) : Nat := 1 + (escs (l.take k)).length

def quoT (l : List Int) : List Int := [34] ++ escs l ++ [34]

theorem at_zero (l : List Int) : at_ l 0 = 1 := by simp [at_, escs]

theorem at_next {l : List Int} {k : Nat} (hk : k < l.length) : at_ l (k + 1) = at_ l k + (esc l[k]).length := by
  unfold at_
  rw [take_snocI l k hk, escs_snoc]
  simp; omega

theorem quoT_split {l : List Int} {k : Nat} (hk : k < l.length) : quoT l = ([34] ++ escs (l.take k)) ++ (esc l[k] ++ (escs (l.drop (k + 1)) ++ [34])) := by
  have e : l = l.take k ++ l[k] :: l.drop (k + 1) := by rw [List.getElem_cons_drop, List.take_append_drop]
  have e2 : escs l = escs (l.take k) ++ (esc l[k] ++ escs (l.drop (k + 1))) := by
    conv => lhs; rw [e]
    rw [escs_append, escs_cons]
  unfold quoT
  rw [e2]
  simp [List.append_assoc]

theorem quoT_at {l : List Int} {k : Nat} (hk : k < l.length) (i : Nat) (hi : i < (esc l[k]).length) : (quoT l).getD (at_ l k + i) 0 = (esc l[k]).getD i 0 := by
  have e : at_ l k + i = ([34] ++ escs (l.take k)).length + i := by simp [at_]; omega
  rw [quoT_split hk, e]
  simp only [List.getD]
  rw [List.getElem?_append_right (Nat.le_add_right _ _), Nat.add_sub_cancel_left, List.getElem?_append_left hi]

theorem quoT_room {l : List Int} {k : Nat} (hk : k < l.length) : at_ l k + (esc l[k]).length + 1 ≤ (quoT l).length := by
  rw [quoT_split hk]
  simp [at_]
  omega

theorem quoT_end (l : List Int) : (quoT l).getD (at_ l l.length) 0 = 34 ∧ (quoT l).length = at_ l l.length + 1 := by
  have e : at_ l l.length = ([34] ++ escs l).length := by simp [at_]; omega
  rw [e]
  unfold quoT
  constructor
  · simp only [List.getD]
    rw [List.getElem?_append_right (Nat.le_refl _)]
    simp
  · simp

theorem quoT_first (l : List Int) : (quoT l).getD 0 0 = 34 := by simp [quoT]

theorem hexL_at : ∀ d : Fin 16, dig (hexL (d.val : Int)) = some (d.val : Int) := by decide
theorem hexL_dig {d : Int} (h0 : 0 ≤ d) (h1 : d < 16) : dig (hexL d) = some d := by
  have := hexL_at ⟨d.toNat, by omega⟩
  have e : ((d.toNat : Nat) : Int) = d := by omega
  simp only [e] at this
  exact this

theorem low_reads {c : Int} (h0 : 0 ≤ c) (h1 : c < 16) : hexFold [48, 48, 48, hexL c] 0 = some c := by
  have e : dig 48 = some 0 := rfl
  rw [hexFold_cons_some e, hexFold_cons_some e, hexFold_cons_some e, hexFold_cons_some (hexL_dig h0 h1)]
  simp [hexFold]
theorem mid_reads {c : Int} (h0 : 16 ≤ c) (h1 : c < 32) : hexFold [48, 48, 49, hexL (c - 16)] 0 = some c := by
  have e : dig 48 = some 0 := rfl
  have e' : dig 49 = some 1 := rfl
  rw [hexFold_cons_some e, hexFold_cons_some e, hexFold_cons_some e', hexFold_cons_some (hexL_dig (by omega) (by omega))]
  simp [hexFold]; omega

/-- A byte is plain, has a short escape, or a long one. -/
theorem esc_cases (c : Int) (h0 : 0 ≤ c) : (32 ≤ c ∧ c ≠ 34 ∧ c ≠ 92 ∧ esc c = [c]) ∨ (c = 34 ∧ esc c = [92, 34]) ∨ (c = 92 ∧ esc c = [92, 92]) ∨ (c = 8 ∧ esc c = [92, 98]) ∨ (c = 9 ∧ esc c = [92, 116]) ∨ (c = 10 ∧ esc c = [92, 110]) ∨ (c = 12 ∧ esc c = [92, 102]) ∨ (c = 13 ∧ esc c = [92, 114]) ∨
    (c < 32 ∧ ∃ x y, esc c = [92, 117, 48, 48, x, y] ∧ hexFold [48, 48, x, y] 0 = some c ∧ 0 ≤ x ∧ x ≤ 255 ∧ 0 ≤ y ∧ y ≤ 255) := by
  by_cases h34 : c = 34
  · subst h34; exact .inr (.inl ⟨rfl, rfl⟩)
  by_cases h92 : c = 92
  · subst h92; exact .inr (.inr (.inl ⟨rfl, rfl⟩))
  by_cases h8 : c = 8
  · subst h8; exact .inr (.inr (.inr (.inl ⟨rfl, rfl⟩)))
  by_cases h9 : c = 9
  · subst h9; exact .inr (.inr (.inr (.inr (.inl ⟨rfl, rfl⟩))))
  by_cases h10 : c = 10
  · subst h10; exact .inr (.inr (.inr (.inr (.inr (.inl ⟨rfl, rfl⟩)))))
  by_cases h12 : c = 12
  · subst h12; exact .inr (.inr (.inr (.inr (.inr (.inr (.inl ⟨rfl, rfl⟩))))))
  by_cases h13 : c = 13
  · subst h13; exact .inr (.inr (.inr (.inr (.inr (.inr (.inr (.inl ⟨rfl, rfl⟩)))))))
  by_cases h16 : c < 16
  · refine .inr (.inr (.inr (.inr (.inr (.inr (.inr (.inr ⟨by omega, 48, hexL c, ?_, low_reads h0 h16, by omega, by omega, ?_, ?_⟩)))))))
    · unfold esc; rw [if_neg h34, if_neg h92, if_neg h8, if_neg h9, if_neg h10, if_neg h12, if_neg h13, if_pos h16]
    · unfold hexL; split <;> omega
    · unfold hexL; split <;> omega
  by_cases h32 : c < 32
  · refine .inr (.inr (.inr (.inr (.inr (.inr (.inr (.inr ⟨h32, 49, hexL (c - 16), ?_, mid_reads (by omega) h32, by omega, by omega, ?_, ?_⟩)))))))
    · unfold esc; rw [if_neg h34, if_neg h92, if_neg h8, if_neg h9, if_neg h10, if_neg h12, if_neg h13, if_neg h16, if_pos h32]
    · unfold hexL; split <;> omega
    · unfold hexL; split <;> omega
  · exact .inl ⟨by omega, h34, h92, esc_plain (by omega) h34 h92⟩

end Go.Proofs.Qxb6604270a
