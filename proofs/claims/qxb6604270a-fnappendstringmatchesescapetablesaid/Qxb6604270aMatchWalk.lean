/-
  The law MatchesEscapeTable (function 3), walked out of the contracts.
-/
import Derived.Test.Qxb6604270aClone
import Derived.Test.Qxb6604270aEscByte
namespace Go.Proofs.Qxb6604270a
open Go.RowKit

set_option maxHeartbeats 400000 in
theorem bytes8_yes (a : Option Addr) (n c : Nat) (s : ByteArray) (w : World) (h : n + s.size ≤ 1048576) : Calls Try.prog 8 #[.slice a n c, .string s] w fun e w' => e = .returned (.bool true) ∧ w = w' := by
  go_enter Try.func8, Try.ntmps8
  go_wp2
  go_ret
  exact ⟨rfl, rfl⟩

set_option maxHeartbeats 400000 in
theorem bytes8_no (a : Option Addr) (n c : Nat) (s : ByteArray) (w : World) (h : ¬ n + s.size ≤ 1048576) (hn : n ≤ maxLen) (hs : s.size ≤ maxLen) : Calls Try.prog 8 #[.slice a n c, .string s] w fun e w' => e = .returned (.bool false) ∧ w = w' := by
  unfold maxLen at hn hs
  by_cases h1 : n ≤ 1048576
  · by_cases h2 : s.size ≤ 1048576
    · go_enter Try.func8, Try.ntmps8
      go_wp2
      go_ret
      exact ⟨rfl, rfl⟩
    · go_enter Try.func8, Try.ntmps8
      go_wp2
      go_ret
      exact ⟨rfl, rfl⟩
  · go_enter Try.func8, Try.ntmps8
    go_wp2
    go_ret
    exact ⟨rfl, rfl⟩

/-- What a clone leaves: a value that owns the bytes, in a block of its own. -/
def Cloned (w : World) (bs : List Int) (e : Ending) (w' : World) : Prop :=
  ∃ v, e = .returned v ∧ w'.ownsRow 0 5 1 v bs.length (cells bs) ∧ w.grownBy w' none ∧ (v.ownBlock = none ∨ v.ownBlock = some w.heap.size)

theorem cloned_nil (w : World) : Calls Try.prog 9 #[.slice none 0 0] w (Cloned w []) := by
  refine (clone_nil w).mono ?_
  rintro e w' ⟨rfl, rfl⟩
  exact ⟨_, rfl, World.ownsRow_nil w 0 5 1, World.grownBy.refl _ _, .inl rfl⟩

theorem cloned_row (a : Addr) (b off n cap : Nat) (zs : List Int) (w : World) (hn : n ≤ 1048576) (hz : n ≤ zs.length) (ha : 0 < n → a = ⟨b, off, none⟩) (hc : ∀ j, j < n → w.cell? ⟨b, off + j, none⟩ = some (.int .u8 (zs.getD j 0))) :
    Calls Try.prog 9 #[.slice (some a) n cap] w (Cloned w (zs.take n)) := by
  refine (clone_row a b off n cap zs w hn ha hc).mono ?_
  rintro e w' ⟨cs, rfl, rfl, hC⟩
  exact ⟨_, rfl, hC.own hz hn w, World.grownBy_alloc w _ none, .inr rfl⟩

theorem cloned_own (v : Value) (bs : List Int) (w : World) (hl : bs.length ≤ 1048576) (hown : w.ownsRow 0 5 1 v bs.length (cells bs)) : Calls Try.prog 9 #[v] w (Cloned w bs) := by
  have hcs := fun g hg => hown.cells (g := g) hg
  rcases hown.2 with ⟨rfl, h0⟩ | ⟨g, cap, cur, rfl, _, hg, hnc, _⟩
  · obtain rfl : bs = [] := List.eq_nil_of_length_eq_zero h0
    exact cloned_nil w
  · have := cloned_row ⟨g, 0, none⟩ g 0 bs.length cap bs w hl (Nat.le_refl _) (fun _ => rfl) (fun j hj => by
      have := hcs g rfl j (.int .u8 (bs.getD j 0)) (by simp [cells, List.getD, hj])
      have hadd : (⟨g, 0, none⟩ : Addr).add j = ⟨g, 0 + j, none⟩ := by unfold Addr.add; split <;> simp_all
      rw [hadd] at this
      exact this)
    rw [List.take_length] at this
    exact this

theorem equal_own (v1 v2 : Value) (L : List Int) (w : World) (h0 : 0 < L.length) (hl : L.length ≤ 100000000) (h1 : w.ownsRow 0 5 1 v1 L.length (cells L)) (h2 : w.ownsRow 0 5 1 v2 L.length (cells L)) :
    Calls Try.prog 12 #[v1, v2] w fun e w' => e = .returned (.bool true) ∧ Below w.heap.size w w' := by
  obtain ⟨g1, c1, rfl, _, b1, q1⟩ := (Buf.start h1).open h0
  obtain ⟨g2, c2, rfl, _, b2, q2⟩ := (Buf.start h2).open h0
  exact equal_yes g1 g2 L.length c1 c2 L w hl b1 b2 q1 q2

theorem rel_want {s : ByteArray} {bs : List Int} {k : Nat} {W wr : World} {r : Option Nat} {v : Value} (hlt : k < s.size) (hB : Buf W r v (bs ++ [34] ++ escs ((bytesI s).take k) ++ esc (s[k].toNat : Int)) wr) :
    Buf W r v (bs ++ [34] ++ escs ((bytesI s).take (k + 1))) wr := by
  have hk : k < (bytesI s).length := by rw [bytesI_length]; exact hlt
  rw [take_snocI _ k hk, escs_snoc, bytesI_getElem s k hlt hk]
  simpa [List.append_assoc] using hB

theorem below_of_grown {w w' : World} (h : w.grownBy w' none) : Below w.heap.size w w' := ⟨h.os, h.tape, h.output, h.size, fun k hk => h.block k hk (by simp)⟩

/-- got stays while want grows; both are there at the end; nothing old has turned. -/
theorem final3 {w w1 w2 w3 w4 : World} {d1 d2 got want : Value} {bs L : List Int} (g1 : w.grownBy w1 none) (f1 : d1.ownBlock = none ∨ d1.ownBlock = some w.heap.size) (_o1 : w1.ownsRow 0 5 1 d1 bs.length (cells bs))
    (g2 : w1.grownBy w2 none) (f2 : d2.ownBlock = none ∨ d2.ownBlock = some w1.heap.size) (o2 : w2.ownsRow 0 5 1 d2 bs.length (cells bs)) (hG : Buf w2 d1.ownBlock got L w3) (hW : Buf w3 d2.ownBlock want L w4) (hd : d1.ownBlock = some w.heap.size → w.heap.size < w1.heap.size) :
    w4.ownsRow 0 5 1 got L.length (cells L) ∧ w4.ownsRow 0 5 1 want L.length (cells L) ∧ Below w.heap.size w w4 := by
  have l2 := o2.lt
  have s1 := g1.size
  have s2 := g2.size
  have s3 := hG.2.1.size
  refine ⟨hG.1.kept hW.2.1 ?_, hW.1, ?_⟩
  · cases hgb : got.ownBlock with
    | none => exact .inl rfl
    | some k =>
      right
      intro e
      have h2 := l2 k e.symm
      rcases f2 with f | f
      · rw [f] at e; cases e
      · rw [f] at e
        cases e
        rcases hG.2.2 _ hgb with q | q
        · rcases f1 with p | p
          · rw [p] at q; cases q
          · have := hd p
            rw [p] at q
            have := Option.some.inj q
            omega
        · omega
  · have b1 := below_of_grown g1
    have b2 := (below_of_grown g2).mono s1
    have b3 : Below w.heap.size w2 w3 := ⟨hG.2.1.os, hG.2.1.tape, hG.2.1.output, hG.2.1.size, fun k hk => hG.2.1.block k (by omega) (fun e => by rcases f1 with p | p <;> rw [p] at e <;> cases e; omega)⟩
    have b4 : Below w.heap.size w3 w4 := ⟨hW.2.1.os, hW.2.1.tape, hW.2.1.output, hW.2.1.size, fun k hk => hW.2.1.block k (by omega) (fun e => by rcases f2 with p | p <;> rw [p] at e <;> cases e; omega)⟩
    exact ((b1.trans b2).trans b3).trans b4

set_option maxHeartbeats 1000000 in
theorem law3 (a0 : Option Addr) (n c0 : Nat) (s : ByteArray) (bs : List Int) (w : World) (hn : bs.length ≤ n) (hcl : Hid (Calls Try.prog 9 #[.slice a0 n c0] w (Cloned w bs))) (h : n + s.size ≤ 1048576) :
    Calls Try.prog 3 #[.slice a0 n c0, .string s] w fun e w' => e = .returned (.bool true) ∧ Below w.heap.size w w' := by
  go_enter Try.func3, Try.ntmps3
  go_wp2_with fail
  refine (bytes8_yes _ _ _ _ _ h).mono ?_
  rintro e w' ⟨rfl, rfl⟩
  go_wp2_with fail
  refine hcl.out.mono ?_
  rintro e w1 ⟨d1, rfl, o1, g1, f1⟩
  go_wp2_with fail
  refine (cloned_own d1 bs w1 (by omega) o1).mono ?_
  rintro e w2 ⟨d2, rfl, o2, g2, f2⟩
  go_wp2_with fail
  have o1' : w2.ownsRow 0 5 1 d1 bs.length (cells bs) := o1.kept g2 (by cases d1.ownBlock <;> simp)
  refine (appendString_any d1 bs s w2 (by omega) (by omega) o1').mono ?_
  rintro e w3 ⟨got, rfl, hG⟩
  have o2' : w3.ownsRow 0 5 1 d2 bs.length (cells bs) := o2.kept hG.2.1 (by
    cases hd2 : d2.ownBlock with
    | none => exact .inl rfl
    | some k =>
      right
      intro e
      rcases f1 with p | p
      · rw [p] at e; cases e
      · have := (o1.lt _ p).2
        rw [p] at e
        have e' := Option.some.inj e
        rcases f2 with q | q
        · rw [q] at hd2; cases hd2
        · rw [q] at hd2
          have := Option.some.inj hd2
          omega)
  have hB := Buf.start o2'
  go_wp2_with (at_builtin; refine wpList_bytes rfl (.tmp 35) (.tmp 36) rfl _ _ rfl _ _ _ hB [34] 1 rfl rfl _ rfl (by omega) ?_; intro v2 w4 hB2)
  go_loopw [5, 7] (fun v i wr => ∃ k : Nat, k ≤ s.size ∧ i = .int .i64 k ∧ Buf w3 d2.ownBlock v (bs ++ [34] ++ escs ((bytesI s).take k)) wr) (fun _ i _ => s.size - (intOf i).toNat)
  case atStart => exact ⟨0, Nat.zero_le _, rfl, by simpa [escs] using hB2⟩
  case round =>
    obtain ⟨k, hk, rfl, hBr⟩ := hrel
    have l1 := (escs_len ((bytesI s).take k)).2
    have l2 : ((bytesI s).take k).length ≤ s.size := by rw [← bytesI_length s]; exact List.length_take_le' _ _
    by_cases hlt : k < s.size
    · have h256 : (s[k].toNat : Int) < 256 := by have := s[k].toNat_lt; omega
      go_wp2_with fail
      refine (escByte_any _ _ _ _ (by omega) h256 (by simp; omega) _ _ hBr).mono ?_
      rintro e w5 ⟨v5, rfl, hB5⟩
      go_wp2
      go_roundw
      case rel => exact ⟨k + 1, by omega, by go_num, rel_want hlt hB5⟩
      case measure => simp [intOf]; omega
    · go_wp2_with (at_builtin; refine wpList_bytes rfl (.tmp 49) (.tmp 50) rfl _ _ rfl _ _ _ hBr [34] 1 rfl rfl _ rfl (by simp; omega) ?_; intro v6 w6 hB6)
      have e1 : (bytesI s).take k = bytesI s := List.take_of_length_le (by rw [bytesI_length]; omega)
      have hB7 : Buf w3 d2.ownBlock v6 (bs ++ [34] ++ escs (bytesI s) ++ [34]) w6 := by rw [e1] at hB6; exact hB6
      obtain ⟨oG, oW, bel⟩ := final3 g1 f1 o1 g2 f2 o2 hG hB7 (fun p => (o1.lt _ p).2)
      have l3 := (escs_len (bytesI s)).2
      rw [bytesI_length] at l3
      refine (equal_own _ _ _ _ (by simp; omega) (by simp; omega) oG oW).mono ?_
      rintro e w7 ⟨rfl, hb7⟩
      go_wp2
      go_ret
      exact ⟨rfl, bel.trans (hb7.mono bel.size)⟩
end Go.Proofs.Qxb6604270a
