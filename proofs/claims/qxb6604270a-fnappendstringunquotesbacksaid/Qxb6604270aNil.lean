/-
  Contracts of the leaves that EscapesByteByByte goes through.
-/
import Derived.Test.Qxb6604270aAppWalk
namespace Go.Proofs.Qxb6604270a
open Go.RowKit

def quo (l : List Int) : List Int := [34] ++ escs l ++ [34]

theorem quo_len (l : List Int) : (quo l).length = (escs l).length + 2 := by simp [quo]

theorem Buf.open {W0 w : World} {r : Option Nat} {v : Value} {bs : List Int} (h : Buf W0 r v bs w) (hne : 0 < bs.length) :
    ∃ g cap, v = .slice (some ⟨g, 0, none⟩) bs.length cap ∧ bs.length ≤ cap ∧ g < w.heap.size ∧ ∀ j, j < bs.length → w.cell? ⟨g, j, none⟩ = some (.int .u8 (bs.getD j 0)) := by
  have hlt := h.1.lt
  have hcs := fun g hg => h.1.cells (g := g) hg
  rcases h.1.2 with ⟨_, h0⟩ | ⟨g, cap, cur, rfl, _, hg, hnc, _⟩
  · omega
  · refine ⟨g, cap, rfl, hnc, (hlt g rfl).2, fun j hj => ?_⟩
    have := hcs g rfl j (.int .u8 (bs.getD j 0)) (by simp [cells, List.getD, hj])
    have hadd : (⟨g, 0, none⟩ : Addr).add j = ⟨g, j, none⟩ := by unfold Addr.add; split <;> simp_all
    rw [hadd] at this
    exact this

theorem appendString_nil (s : ByteArray) (w : World) (hs : s.size ≤ 1048576) :
    Calls Try.prog 10 #[.slice none 0 0, .string s] w fun e w' => ∃ g cap, e = .returned (.slice (some ⟨g, 0, none⟩) (quo (bytesI s)).length cap) ∧ g < w'.heap.size ∧ w.heap.size ≤ w'.heap.size ∧
      (∀ j, j < (quo (bytesI s)).length → w'.cell? ⟨g, j, none⟩ = some (.int .u8 ((quo (bytesI s)).getD j 0))) ∧ Below w.heap.size w w' := by
  refine (appendString_any (.slice none 0 0) [] s w hs (by simp) (World.ownsRow_nil w 0 5 1)).mono ?_
  rintro e w' ⟨v', rfl, hB⟩
  have hB' : Buf w none v' (quo (bytesI s)) w' := by simpa [quo, Value.ownBlock] using hB
  obtain ⟨g, cap, rfl, _, hg, hc⟩ := hB'.open (by simp [quo])
  exact ⟨g, cap, rfl, hg, hB'.2.1.size, hc, ⟨hB'.2.1.os, hB'.2.1.tape, hB'.2.1.output, hB'.2.1.size, fun k hk => hB'.2.1.block k hk (by simp)⟩⟩

set_option maxHeartbeats 400000 in
theorem bytes15_yes (a b : ByteArray) (w : World) (h : a.size + b.size ≤ 1048576) : Calls Try.prog 15 #[.string a, .string b] w fun e w' => e = .returned (.bool true) ∧ w = w' := by
  go_enter Try.func15, Try.ntmps15
  go_wp2
  go_ret
  exact ⟨rfl, rfl⟩

set_option maxHeartbeats 400000 in
theorem bytes15_no (a b : ByteArray) (w : World) (h : ¬ a.size + b.size ≤ 1048576) (ha : a.size ≤ maxLen) (hb : b.size ≤ maxLen) : Calls Try.prog 15 #[.string a, .string b] w fun e w' => e = .returned (.bool false) ∧ w = w' := by
  unfold maxLen at ha hb
  by_cases h1 : a.size ≤ 1048576
  · by_cases h2 : b.size ≤ 1048576
    · go_enter Try.func15, Try.ntmps15
      go_wp2
      go_ret
      exact ⟨rfl, rfl⟩
    · go_enter Try.func15, Try.ntmps15
      go_wp2
      go_ret
      exact ⟨rfl, rfl⟩
  · go_enter Try.func15, Try.ntmps15
    go_wp2
    go_ret
    exact ⟨rfl, rfl⟩

end Go.Proofs.Qxb6604270a
