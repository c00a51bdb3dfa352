/-
  'Rows.FnHornerPeelsTheFirstCoefficientSaid', proved: the guide's frame, typed for a float64 and a slice of float64; the walk is out of Qxb6604785aHorner.
-/
import Derived.Test.Qxb6604785aRows
import Derived.WalkKit
import Derived.ProofKit
import Derived.OpenShut
import Derived.ChangeOld
import Derived.Below
import Derived.Deep.Slices
import Derived.Test.Qxb6604785aHorner
namespace Go.Proofs.Qxb6604785a.fnHornerPeelsTheFirstCoefficient
open Go.ChangeShapes Go.WideShapes Go.ChangeAt Go.RowKit Go.Deep
set_option linter.unusedVariables false

theorem own : ownKnob Try.prog.godebug = none := by kernel_rfl
theorem laidOut : laidOutB Try.prog = true := by kernel_rfl

/-- What the walk is told of a slice of float64 that came in. -/
def IsRow (w : World) (a : Option Addr) (len cap : Nat) (zs : List Nat) : Prop :=
  (a = none ∧ len = 0 ∧ cap = 0 ∧ zs = []) ∨
  ∃ x, a = some x ∧ len ≤ cap ∧ cap ≤ maxLen ∧ zs.length = len ∧ (∀ i, i < len → w.cell? (x.add i) = some (.float .f64 (zs.getD i 0)))

theorem walk (a0 : Nat) (a1 : Option Addr) (len1 cap1 : Nat) (z1 : List Nat) (w : World) (w1 : IsRow w a1 len1 cap1 z1) :
    Calls Try.prog 4 #[.float .f64 a0, .slice a1 len1 cap1] w fun e w' => e = .returned (.bool true) ∧ Below w.heap.size w w' := by
  by_cases h : 65536 < len1
  · exact law4_long a0 a1 len1 cap1 w h
  · rcases w1 with ⟨rfl, rfl, rfl, rfl⟩ | ⟨x, rfl, hlc, hcm, hz, hc⟩
    · exact law4_none a0 none 0 w
    · by_cases hl0 : 0 < len1
      · obtain ⟨b, off, spot⟩ := x
        have hspot : spot = none := by simpa [Addr.add] using World.cell?_spot (hc 0 (by omega))
        subst hspot
        have hc' : ∀ j, j < len1 → w.cell? ⟨b, off + j, none⟩ = some (.float .f64 (z1.getD j 0)) := fun j hj => by rw [← add_plain]; exact hc j (by omega)
        exact law4_row a0 b off len1 cap1 z1 w hz hl0 (by omega) hc'
      · obtain rfl : len1 = 0 := by omega
        exact law4_none a0 _ cap1 w

set_option maxRecDepth 100000 in
theorem lifted (os : Os) (started : os.Started) (H : Type) (enc : TypeId × Value → H) :
    ReturnsInHanded {} Try.checked os 4 .any (Rows.fnHornerPeelsTheFirstCoefficientSpec.pre6 enc Try.prog Try.f4 Rows.fnHornerPeelsTheFirstCoefficientRow.domain false) (Rows.fnHornerPeelsTheFirstCoefficientSpec.post enc Try.prog Try.f4 false true false false) := by
  refine returnsInHanded_of_change (C := Try.checked) own started (by kernel_rfl) Try.func4
    (ChangeSpec.witness6 (enc := enc) (C := Try.checked) false ⟨#[], #[.float .f64 0, .slice none 0 0], []⟩ 8 (by kernel_rfl) (by kernel_rfl) (by kernel_rfl) (by kernel_rfl)) ?_
  intro W base args ds gs before hval0 hW hcnd _
  have hval : ∀ (j : Nat) t v, Try.f4.params[j]? = some t → args[j]? = some v → Value.okWide Try.prog W .any base t v := hval0
  have hW' := hW
  obtain ⟨p, q, hA0, hV, rfl, hfz, hnd⟩ := hW
  have hA : DataW.TrodAll enc Try.prog W 0 (fun _ => true) true Try.f4.params.toList args.toList ds p := hA0
  rw [Try.params4] at hA hval
  obtain ⟨v0, vs0, d0, ds0, p0, q0, hargs, rfl, rfl, h0, r0⟩ := trodAll_cons hA
  obtain ⟨v1, vs1, d1, ds1, p1, q1, rfl, rfl, rfl, h1, r1⟩ := trodAll_cons r0
  obtain ⟨rfl, rfl, rfl⟩ := trodAll_nil r1
  obtain rfl : args = #[v0, v1] := by cases args; simp_all
  obtain ⟨rfl, rfl⟩ := trodVars_none hV
  obtain ⟨a0, rfl, rfl, rfl, w0⟩ := open_float Try.underlying22 (hval 0 22 v0 rfl rfl) h0
  obtain ⟨a1, len1, cap1, rfl⟩ := okWide_slice Try.underlying37 (hval 1 37 v1 rfl rfl)
  have k1 := h1
  have lt1 : ∀ x ∈ p1, x.block < W.heap.size := by obtain ⟨m, hm⟩ := k1; exact DataW.trod_lt m _ _ _ hm
  obtain ⟨z1, w1⟩ : ∃ zs, IsRow W a1 len1 cap1 zs := by
    obtain ⟨fuel, hf⟩ := h1
    rcases open_slice1 Try.underlying37 (by kernel_rfl) hf with ⟨hcs, _⟩ | ⟨x, l, c, m, n, V, D, Pl, hcs, _, hl, hm, hmm, _, hcell⟩
    · simp [Value.cells] at hcs
      obtain ⟨rfl, rfl, rfl⟩ := hcs
      exact ⟨[], .inl ⟨rfl, rfl, rfl, rfl⟩⟩
    · simp [Value.cells] at hcs
      obtain ⟨rfl, rfl, rfl⟩ := hcs
      have hml : len1 ≤ m := by rw [hmm]; simp; omega
      have hfl : ∀ i, i < len1 → ∃ b, V i = .float .f64 b := by
        intro i hi
        have ht := (hcell i (by omega)).2
        cases n with
        | zero => simp [DataW.trod] at ht
        | succ n =>
          simp only [DataW.trod, Try.underlying22] at ht
          cases hv : V i <;> simp_all
      refine ⟨(List.range len1).map (fun i => match V i with | .float _ b => b | _ => 0), .inr ⟨_, rfl, hl, hm, by simp, fun i hi => ?_⟩⟩
      obtain ⟨b, hb⟩ := hfl i hi
      rw [(hcell i (by omega)).1, hb]
      simp [List.getD, hi, hb]
  clear hA0 hval0
  refine (walk a0 a1 len1 cap1 z1 W w1).mono fun e W' ⟨he, bel⟩ => ?_
  subst he
  exact ⟨_, rfl, _, _, _, [], _, [], hW', trodAll_mk1 (shut_bool Try.underlying4 _), (trodAll_cons_mk (shut_float Try.underlying22 w0) (trodAll_cons_mk (Below.trod laidOut (by kernel_rfl) (of_decide_eq_true (by kernel_rfl)) k1 bel lt1) trodAll_mk0)), rfl, bel.frame _, fun h => by cases h⟩

theorem over : Rows.fnHornerPeelsTheFirstCoefficientRow.holds Try.pinned (OpenSpec.ofChange Rows.fnHornerPeelsTheFirstCoefficientSpec) :=
  OpenClaim.holds_of_wide 4 Try.f4 rfl rfl rfl rfl rfl rfl rfl ⟨rfl, rfl, rfl, rfl, rfl⟩ rfl rfl rfl rfl rfl (by kernel_rfl) Try.func4 (by kernel_rfl)
    (of_decide_eq_true (by kernel_rfl)) (by unfold Func.isWrapper; first | (rw [if_pos (by decide +kernel)]; kernel_rfl) | (rw [if_neg (by decide +kernel)]; exact ⟨rfl, rfl⟩))
    (fun os started H enc _ => lifted os started H enc)

theorem proved : Rows.FnHornerPeelsTheFirstCoefficientSaid := over
#print axioms proved
end Go.Proofs.Qxb6604785a.fnHornerPeelsTheFirstCoefficient
