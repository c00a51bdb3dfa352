/-
  The plain side of seat b6604270a: the escape table over numbers, and what a run of AppendString's loop keeps. No program in sight.
-/
namespace Go.Proofs.Qxb6604270a

def hexL (d : Int) : Int := if d < 10 then 48 + d else 97 + (d - 10)

/-- The escape table of one byte. -/
def esc (c : Int) : List Int :=
  if c = 34 then [92, 34] else if c = 92 then [92, 92] else if c = 8 then [92, 98] else if c = 9 then [92, 116] else if c = 10 then [92, 110]
  else if c = 12 then [92, 102] else if c = 13 then [92, 114] else if c < 16 then [92, 117, 48, 48, 48, hexL c] else if c < 32 then [92, 117, 48, 48, 49, hexL (c - 16)] else [c]

def escs (l : List Int) : List Int := l.flatMap esc

theorem escs_nil : escs [] = [] := rfl
theorem escs_snoc (l : List Int) (c : Int) : escs (l ++ [c]) = escs l ++ esc c := by simp [escs]
theorem escs_append (l m : List Int) : escs (l ++ m) = escs l ++ escs m := by simp [escs]
theorem escs_cons (c : Int) (l : List Int) : escs (c :: l) = esc c ++ escs l := by simp [escs]

theorem esc_len (c : Int) : 1 ≤ (esc c).length ∧ (esc c).length ≤ 6 := by
  unfold esc
  repeat' split
  all_goals simp

theorem escs_len (l : List Int) : l.length ≤ (escs l).length ∧ (escs l).length ≤ 6 * l.length := by
  induction l with
  | nil => simp [escs]
  | cons c l ih => have := esc_len c; rw [escs_cons]; simp; omega

theorem esc_plain {c : Int} (h : 32 ≤ c) (h1 : c ≠ 34) (h2 : c ≠ 92) : esc c = [c] := by
  unfold esc
  rw [if_neg h1, if_neg h2, if_neg (by omega), if_neg (by omega), if_neg (by omega), if_neg (by omega), if_neg (by omega), if_neg (by omega), if_neg (by omega)]

/-- What AppendString's loop keeps: D has been written, the bytes from 'run' to k are still to be written as they stand. -/
def Run (l : List Int) (D : List Int) (run k : Nat) : Prop :=
  run ≤ k ∧ k ≤ l.length ∧ D ++ (l.take k).drop run = escs (l.take k)

theorem Run.start (l : List Int) : Run l [] 0 0 := ⟨Nat.le_refl _, Nat.zero_le _, by simp [escs]⟩

theorem Run.len {l D : List Int} {run k : Nat} (h : Run l D run k) : D.length + (k - run) ≤ 6 * k := by
  have h1 := escs_len (l.take k)
  have h2 := congrArg List.length h.2.2
  have h3 := h.1
  have h4 := h.2.1
  simp at h1 h2
  omega

theorem take_snocI (l : List Int) (k : Nat) (h : k < l.length) : l.take (k + 1) = l.take k ++ [l[k]] := by
  rw [List.take_succ_eq_append_getElem h]

theorem Run.plain {l D : List Int} {run k : Nat} (h : Run l D run k) (hk : k < l.length) (hp : esc l[k] = [l[k]]) : Run l D run (k + 1) := by
  obtain ⟨h1, h2, h3⟩ := h
  refine ⟨by omega, by omega, ?_⟩
  rw [take_snocI l k hk, escs_snoc, hp, List.drop_append_of_le_length (by simp; omega), ← List.append_assoc, h3]

theorem Run.esc {l D : List Int} {run k : Nat} (h : Run l D run k) (hk : k < l.length) : Run l (D ++ (l.take k).drop run ++ esc l[k]) (k + 1) (k + 1) := by
  obtain ⟨h1, h2, h3⟩ := h
  refine ⟨Nat.le_refl _, by omega, ?_⟩
  rw [h3, take_snocI l k hk, escs_snoc]
  simp

theorem Run.done {l D : List Int} {run k : Nat} (h : Run l D run k) (hk : k = l.length) : D ++ l.drop run = escs l := by
  have := h.2.2
  subst hk
  simpa using this

end Go.Proofs.Qxb6604270a
