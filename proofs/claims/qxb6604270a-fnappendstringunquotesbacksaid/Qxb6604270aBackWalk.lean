/-
  The law UnquotesBack (function 4), walked out of the contracts.
-/
import Derived.Test.Qxb6604270aUnqWalk
import Derived.Test.Qxb6604270aClone
import Derived.Deep.QuietTactic
import Derived.BigQuiet
namespace Go.Proofs.Qxb6604270a
open Go.RowKit

set_option maxHeartbeats 400000 in
theorem bytes13_yes (a : Option Addr) (n c : Nat) (s : ByteArray) (w : World) (h : n + s.size ≤ 1048576) : Calls Try.prog 13 #[.slice a n c, .string s] w fun e w' => e = .returned (.bool true) ∧ w = w' := by
  go_enter Try.func13, Try.ntmps13
  go_wp2
  go_ret
  exact ⟨rfl, rfl⟩

set_option maxHeartbeats 400000 in
theorem bytes13_no (a : Option Addr) (n c : Nat) (s : ByteArray) (w : World) (h : ¬ n + s.size ≤ 1048576) (hn : n ≤ maxLen) (hs : s.size ≤ maxLen) : Calls Try.prog 13 #[.slice a n c, .string s] w fun e w' => e = .returned (.bool false) ∧ w = w' := by
  unfold maxLen at hn hs
  by_cases h1 : n ≤ 1048576
  · by_cases h2 : s.size ≤ 1048576
    · go_enter Try.func13, Try.ntmps13
      go_wp2
      go_ret
      exact ⟨rfl, rfl⟩
    · go_enter Try.func13, Try.ntmps13
      go_wp2
      go_ret
      exact ⟨rfl, rfl⟩
  · go_enter Try.func13, Try.ntmps13
    go_wp2
    go_ret
    exact ⟨rfl, rfl⟩

/-- What a clone leaves, its length seen. -/
def ClonedL (w : World) (n : Nat) (bs : List Int) (e : Ending) (w' : World) : Prop :=
  ∃ ao c, e = .returned (.slice ao n c) ∧ w'.ownsRow 0 5 1 (.slice ao n c) bs.length (cells bs) ∧ w.grownBy w' none ∧ (Value.ownBlock (.slice ao n c) = none ∨ Value.ownBlock (.slice ao n c) = some w.heap.size)

theorem clonedL_nil (w : World) : Calls Try.prog 9 #[.slice none 0 0] w (ClonedL w 0 []) := by
  refine (clone_nil w).mono ?_
  rintro e w' ⟨rfl, rfl⟩
  exact ⟨_, _, rfl, World.ownsRow_nil w 0 5 1, World.grownBy.refl _ _, .inl rfl⟩

theorem clonedL_row (a : Addr) (b off n cap : Nat) (zs : List Int) (w : World) (hn : n ≤ 1048576) (hz : n ≤ zs.length) (ha : 0 < n → a = ⟨b, off, none⟩) (hc : ∀ j, j < n → w.cell? ⟨b, off + j, none⟩ = some (.int .u8 (zs.getD j 0))) :
    Calls Try.prog 9 #[.slice (some a) n cap] w (ClonedL w n (zs.take n)) := by
  refine (clone_row a b off n cap zs w hn ha hc).mono ?_
  rintro e w' ⟨cs, rfl, rfl, hC⟩
  exact ⟨_, _, rfl, hC.own hz hn w, World.grownBy_alloc w _ none, .inr rfl⟩

/-- AppendString, its result's length and cells seen. -/
theorem appendString_open (v : Value) (bs : List Int) (s : ByteArray) (w : World) (hs : s.size ≤ 1048576) (hb : bs.length ≤ 1048576) (hown : w.ownsRow 0 5 1 v bs.length (cells bs)) :
    Calls Try.prog 10 #[v, .string s] w fun e w' => ∃ g cap, e = .returned (.slice (some ⟨g, 0, none⟩) (bs.length + (quoT (bytesI s)).length) cap) ∧ bs.length + (quoT (bytesI s)).length ≤ cap ∧ g < w'.heap.size ∧ w.grownBy w' v.ownBlock ∧
      ∀ j, j < (quoT (bytesI s)).length → w'.cell? ⟨g, bs.length + j, none⟩ = some (.int .u8 ((quoT (bytesI s)).getD j 0)) := by
  refine (appendString_any v bs s w hs hb hown).mono ?_
  rintro e w' ⟨v', rfl, hB⟩
  have e1 : bs ++ [34] ++ escs (bytesI s) ++ [34] = bs ++ quoT (bytesI s) := by simp [quoT]
  rw [e1] at hB
  obtain ⟨g, cap, rfl, hcap, hg, hc⟩ := hB.open (by simp [quoT]; omega)
  rw [List.length_append] at hcap hc
  refine ⟨g, cap, by rw [List.length_append], hcap, hg, hB.2.1, fun j hj => ?_⟩
  rw [hc (bs.length + j) (by omega)]
  simp [List.getD, List.getElem?_append_right]

theorem unquote_open (g n cap : Nat) (l : List Int) (w : World) (hl : l.length ≤ 1048576) (hb : ∀ c ∈ l, 0 ≤ c ∧ c ≤ 255) (hg : g < w.heap.size) (hcap : (quoT l).length ≤ cap)
    (hc : ∀ j, j < (quoT l).length → w.cell? ⟨g, n + j, none⟩ = some (.int .u8 ((quoT l).getD j 0))) (h0 : 0 < l.length) :
    Calls Try.prog 14 #[.slice (some ⟨g, n, none⟩) (quoT l).length cap] w fun e w' => ∃ g' c', e = .returned (.tuple #[.slice (some ⟨g', 0, none⟩) l.length c', .int .i64 ((quoT l).length : Nat), .bool true]) ∧ g' < w'.heap.size ∧ Below w.heap.size w w' ∧
      ∀ j, j < l.length → w'.cell? ⟨g', j, none⟩ = some (.int .u8 (l.getD j 0)) := by
  refine (unquote_any g n cap l w hl hb hg hcap hc).mono ?_
  rintro e w' ⟨v, rfl, hB⟩
  obtain ⟨g', c', rfl, _, hg', hc'⟩ := hB.open h0
  exact ⟨g', c', rfl, hg', ⟨hB.2.1.os, hB.2.1.tape, hB.2.1.output, hB.2.1.size, fun k hk => hB.2.1.block k hk (by simp)⟩, hc'⟩

theorem unquote_empty (g n cap : Nat) (w : World) (hg : g < w.heap.size) (hcap : (quoT []).length ≤ cap)
    (hc : ∀ j, j < (quoT []).length → w.cell? ⟨g, n + j, none⟩ = some (.int .u8 ((quoT []).getD j 0))) :
    Calls Try.prog 14 #[.slice (some ⟨g, n, none⟩) (quoT []).length cap] w fun e w' => ∃ ao c', e = .returned (.tuple #[.slice ao 0 c', .int .i64 ((quoT []).length : Nat), .bool true]) ∧ Below w.heap.size w w' := by
  refine (unquote_any g n cap [] w (by simp) (by simp) hg hcap hc).mono ?_
  rintro e w' ⟨v, rfl, hB⟩
  have hbel : Below w.heap.size w w' := ⟨hB.2.1.os, hB.2.1.tape, hB.2.1.output, hB.2.1.size, fun k hk => hB.2.1.block k hk (by simp)⟩
  rcases hB.1.2 with ⟨rfl, _⟩ | ⟨g', cap', cur, rfl, _⟩
  · exact ⟨_, _, rfl, hbel⟩
  · exact ⟨_, _, rfl, hbel⟩

theorem below_grown {w w1 w2 : World} {v : Value} (g1 : w.grownBy w1 none) (f1 : v.ownBlock = none ∨ v.ownBlock = some w.heap.size) (g2 : w1.grownBy w2 v.ownBlock) : Below w.heap.size w w2 := by
  have s1 := g1.size
  refine ⟨g2.os.trans g1.os, g2.tape.trans g1.tape, g2.output.trans g1.output, Nat.le_trans g1.size g2.size, fun k hk => ?_⟩
  rw [g2.block k (by omega) (fun e => by rcases f1 with p | p <;> rw [p] at e <;> cases e; omega), g1.block k hk (by simp)]

theorem bytesI_bd (s : ByteArray) : ∀ c ∈ bytesI s, 0 ≤ c ∧ c ≤ 255 := by
  intro c hc
  obtain ⟨b, _, rfl⟩ := List.mem_map.1 hc
  have := b.toNat_lt
  omega

set_option maxRecDepth 20000 in
set_option maxHeartbeats 1000000 in
theorem law4_more (a0 : Option Addr) (n c0 : Nat) (s : ByteArray) (bs : List Int) (w : World) (hn : bs.length = n) (hcl : Hid (Calls Try.prog 9 #[.slice a0 n c0] w (ClonedL w n bs))) (h : n + s.size ≤ 1048576) (hs0 : 0 < s.size) :
    Calls Try.prog 4 #[.slice a0 n c0, .string s] w fun e w' => e = .returned (.bool true) ∧ Below w.heap.size w w' := by
  obtain ⟨m, hm⟩ : ∃ m, m = (quoT (bytesI s)).length := ⟨_, rfl⟩
  have hm2 : 2 ≤ m := by rw [hm]; simp [quoT]
  have hmb : m ≤ 6291458 := by have := (escs_len (bytesI s)).2; rw [bytesI_length] at this; rw [hm]; simp [quoT]; omega
  have ka := fun (v : Value) (wx : World) (ho : wx.ownsRow 0 5 1 v bs.length (cells bs)) => appendString_open v bs s wx (by omega) (by omega) ho
  have ku := fun (g cap : Nat) (wx : World) (hg : g < wx.heap.size) (hcap : (quoT (bytesI s)).length ≤ cap) (hc : ∀ j, j < (quoT (bytesI s)).length → wx.cell? ⟨g, n + j, none⟩ = some (.int .u8 ((quoT (bytesI s)).getD j 0))) => unquote_open g n cap (bytesI s) wx (by rw [bytesI_length]; omega) (bytesI_bd s) hg hcap hc (by rw [bytesI_length]; exact hs0)
  have hgb : Hid (∀ k (hk : k < s.size), (bytesI s).getD k 0 = (s[k].toNat : Int)) := fun k hk => by
    have hk' : k < (bytesI s).length := by rw [bytesI_length]; exact hk
    simp only [List.getD, List.getElem?_eq_getElem hk', Option.getD_some]
    exact bytesI_getElem s k hk hk'
  rw [← hm, hn] at ka
  rw [← hm, bytesI_length] at ku
  have KA : Hid _ := ka
  have KU : Hid _ := ku
  have HN : Hid _ := hn
  clear ka ku hm hn
  go_enter Try.func4, Try.ntmps4
  go_wp2_with fail
  refine (bytes13_yes _ _ _ _ _ h).mono ?_
  rintro e w' ⟨rfl, rfl⟩
  go_wp2_with fail
  refine Calls.mono hcl.out ?_
  rintro e w1 ⟨ao, cc, rfl, o1, g1, f1⟩
  go_wp2_with fail
  have o1' := o1
  rw [HN.out] at o1'
  refine Calls.mono (KA.out _ _ o1') ?_
  clear o1'
  rintro e w2 ⟨g, cap, rfl, hcap, hg, g2, hc2⟩
  have hcn : ¬ cap = n := by omega
  go_wp2_with fail
  refine Calls.mono (KU.out g (cap - n) w2 hg (by omega) hc2) ?_
  rintro e w3 ⟨g', c', rfl, hg', hb3, hc3⟩
  have bel : Hid (Below w.heap.size w w3) := (below_grown g1 f1 g2).trans (hb3.mono (Nat.le_trans g1.size g2.size))
  clear hc2 hcap hg g2 g1 f1 o1 hcn
  have hsub : (n : Int) + (m : Int) - (n : Int) = (m : Int) := by omega
  go_wp2
  go_loopw [10] (fun i wr => ∃ k : Nat, k ≤ s.size ∧ i = .int .i64 k ∧ Below w3.heap.size w3 wr) (fun i _ => s.size - (intOf i).toNat)
  case atStart => exact ⟨0, Nat.zero_le _, rfl, Below.refl _ _⟩
  case round =>
    obtain ⟨k, hk, rfl, hbr⟩ := hrel
    by_cases hlt : k < s.size
    · have q1 : wr.cell? ⟨g', k, none⟩ = some (.int .u8 (s[k].toNat : Int)) := by rw [hbr.cell (by exact hg'), hc3 k hlt, hgb.out k hlt]
      have i1 : (k : Int) < (s.size : Int) := by omega
      clear hc3
      go_wp2
      go_quiet (fail)
      go_wp2
      go_roundw
      case rel => exact ⟨k + 1, by omega, by go_num, below_drewN hbr _⟩
      case measure => simp [intOf]; omega
    · go_wp2
      go_ret
      exact ⟨rfl, bel.out.trans (hbr.mono bel.out.size)⟩

set_option maxRecDepth 20000 in
set_option maxHeartbeats 1000000 in
theorem law4_empty (a0 : Option Addr) (n c0 : Nat) (s : ByteArray) (bs : List Int) (w : World) (hn : bs.length = n) (hcl : Hid (Calls Try.prog 9 #[.slice a0 n c0] w (ClonedL w n bs))) (h : n + s.size ≤ 1048576) (hs0 : ¬ 0 < s.size) :
    Calls Try.prog 4 #[.slice a0 n c0, .string s] w fun e w' => e = .returned (.bool true) ∧ Below w.heap.size w w' := by
  have hbs : bytesI s = [] := List.eq_nil_of_length_eq_zero (by rw [bytesI_length]; omega)
  have ka := fun (v : Value) (wx : World) (ho : wx.ownsRow 0 5 1 v bs.length (cells bs)) => appendString_open v bs s wx (by omega) (by omega) ho
  have ku := fun (g cap : Nat) (wx : World) (hg : g < wx.heap.size) (hcap : (quoT []).length ≤ cap) (hc : ∀ j, j < (quoT []).length → wx.cell? ⟨g, n + j, none⟩ = some (.int .u8 ((quoT []).getD j 0))) => unquote_empty g n cap wx hg hcap hc
  have hm : (quoT []).length = 2 := rfl
  rw [hbs, hm, hn] at ka
  rw [hm] at ku
  have KA : Hid _ := ka
  have KU : Hid _ := ku
  have HN : Hid _ := hn
  have hs : (s.size : Int) ≤ 0 := by omega
  have hs1 : ((s.size : Int) != 0) = false := by rw [show (s.size : Int) = 0 by omega]; rfl
  have hs2 : ((0 : Int) != (s.size : Int)) = false := by rw [show (s.size : Int) = 0 by omega]; rfl
  clear ka ku hn hbs hm
  go_enter Try.func4, Try.ntmps4
  go_wp2_with fail
  refine (bytes13_yes _ _ _ _ _ h).mono ?_
  rintro e w' ⟨rfl, rfl⟩
  go_wp2_with fail
  refine Calls.mono hcl.out ?_
  rintro e w1 ⟨ao, cc, rfl, o1, g1, f1⟩
  go_wp2_with fail
  have o1' := o1
  rw [HN.out] at o1'
  refine Calls.mono (KA.out _ _ o1') ?_
  clear o1'
  rintro e w2 ⟨g, cap, rfl, hcap, hg, g2, hc2⟩
  have hcn : ¬ cap = n := by omega
  go_wp2_with fail
  refine Calls.mono (KU.out g (cap - n) w2 hg (by omega) hc2) ?_
  rintro e w3 ⟨ao', c', rfl, hb3⟩
  have bel : Hid (Below w.heap.size w w3) := (below_grown g1 f1 g2).trans (hb3.mono (Nat.le_trans g1.size g2.size))
  clear hc2 hcap hg g2 g1 f1 o1 hcn
  have hsub : (n : Int) + 2 - (n : Int) = 2 := by omega
  go_wp2
  go_loopw [10] (fun i wr => i = .int .i64 0 ∧ wr = w3) (fun _ _ => 0)
  case atStart => exact ⟨rfl, rfl⟩
  case round =>
    obtain ⟨rfl, rfl⟩ := hrel
    go_wp2
    go_ret
    exact ⟨rfl, bel.out⟩

end Go.Proofs.Qxb6604270a
