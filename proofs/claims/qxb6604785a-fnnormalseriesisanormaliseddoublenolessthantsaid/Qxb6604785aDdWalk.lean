/-
  The double's functions, walked: each computes what its relation on words says.
-/
import Derived.Test.Qxb6604785aRows
import Derived.WalkKit
import Derived.WalkSpells
import Derived.WalkLawsBesides
import Derived.Test.Qxb6604785aDdEx
namespace Go.Proofs.Qxb6604785a
open Go.RowKit

theorem run_store_f64 (w : World) (a : Addr) (b : Nat) : (store a (.float .f64 b)).run Try.prog w = stored Try.prog w a (.float .f64 b) .plain := run_store Try.prog w a _ .plain rfl
attribute [local go_sem] run_store_f64

theorem bcell {W w1 : World} (hb : Below W.heap.size W w1) : (∀ b o, b < W.heap.size → w1.cell? ⟨b, o, none⟩ = W.cell? ⟨b, o, none⟩) ∧ (∀ b o, b < W.heap.size → w1.frozen? ⟨b, o, none⟩ = W.frozen? ⟨b, o, none⟩) :=
  ⟨fun b o h => hb.cell (p := ⟨b, o, none⟩) h, fun b o h => hb.frozen (p := ⟨b, o, none⟩) h⟩

set_option maxHeartbeats 400000 in
theorem quick_walk (a b s l : Nat) (h : QuickW a b s l) (w : World) :
    Calls Try.prog 27 #[.float .f64 a, .float .f64 b] w fun e w' => e = .returned (.agg #[.float .f64 s, .float .f64 l]) ∧ Below w.heap.size w w' := by
  obtain ⟨z, h1, h2, h3⟩ := h
  have r1 := fun w => run_float_arith (P := Try.prog) w .add 22 .f64 a b s h1
  have r2 := fun w => run_float_arith (P := Try.prog) w .sub 22 .f64 s a z h2
  have r3 := fun w => run_float_arith (P := Try.prog) w .sub 22 .f64 b z l h3
  clear h1 h2 h3
  go_enter Try.func27, Try.ntmps27
  go_wp2
  refine bodyPost_ret (v := .agg #[.float .f64 s, .float .f64 l]) (by simp [results, Try.results27, go_sem]) rfl ⟨rfl, ?_⟩
  exact (Below.refl _ _).alloc (Nat.le_refl _) _

set_option maxHeartbeats 400000 in
theorem split_walk (a h l : Nat) (H : SplitW a h l) (w : World) :
    Calls Try.prog 23 #[.float .f64 a] w fun e w' => e = .returned (.tuple #[.float .f64 h, .float .f64 l]) ∧ w = w' := by
  obtain ⟨c, d, h1, h2, h3, h4⟩ := H
  have r1 := fun w => run_float_arith (P := Try.prog) w .mul 22 .f64 wC a c h1
  unfold wC at r1
  have r2 := fun w => run_float_arith (P := Try.prog) w .sub 22 .f64 c a d h2
  have r3 := fun w => run_float_arith (P := Try.prog) w .sub 22 .f64 c d h h3
  have r4 := fun w => run_float_arith (P := Try.prog) w .sub 22 .f64 a h l h4
  clear h1 h2 h3 h4
  go_enter Try.func23, Try.ntmps23
  go_wp2
  go_ret2
  exact ⟨rfl, rfl⟩

set_option maxHeartbeats 400000 in
theorem twoSum_walk (a b s l : Nat) (h : TwoSumW a b s l) (w : World) :
    Calls Try.prog 29 #[.float .f64 a, .float .f64 b] w fun e w' => e = .returned (.agg #[.float .f64 s, .float .f64 l]) ∧ Below w.heap.size w w' := by
  obtain ⟨bs, av, ar, br, h1, h2, h3, h4, h5, h6⟩ := h
  have r1 := fun w => run_float_arith (P := Try.prog) w .add 22 .f64 a b s h1
  have r2 := fun w => run_float_arith (P := Try.prog) w .sub 22 .f64 s a bs h2
  have r3 := fun w => run_float_arith (P := Try.prog) w .sub 22 .f64 s bs av h3
  have r4 := fun w => run_float_arith (P := Try.prog) w .sub 22 .f64 a av ar h4
  have r5 := fun w => run_float_arith (P := Try.prog) w .sub 22 .f64 b bs br h5
  have r6 := fun w => run_float_arith (P := Try.prog) w .add 22 .f64 ar br l h6
  clear h1 h2 h3 h4 h5 h6
  go_enter Try.func29, Try.ntmps29
  go_wp2
  refine bodyPost_ret (v := .agg #[.float .f64 s, .float .f64 l]) (by simp [results, Try.results29, go_sem]) rfl ⟨rfl, ?_⟩
  exact (Below.refl _ _).alloc (Nat.le_refl _) _

set_option maxHeartbeats 400000 in
theorem twoProd_walk (a b p e : Nat) (H : TwoProdW a b p e) (w : World) :
    Calls Try.prog 19 #[.float .f64 a, .float .f64 b] w fun e' w' => e' = .returned (.agg #[.float .f64 p, .float .f64 e]) ∧ Below w.heap.size w w' := by
  obtain ⟨ah, al, bh, bl, x1, y1, x2, y2, x3, y3, x4, hp, sa, sb, f1, g1, f2, g2, f3, g3, f4, g4⟩ := H
  have r0 := fun w => run_float_arith (P := Try.prog) w .mul 22 .f64 a b p hp
  have r1 := fun w => run_float_arith (P := Try.prog) w .mul 22 .f64 ah bh x1 f1
  have s1 := fun w => run_float_arith (P := Try.prog) w .sub 22 .f64 x1 p y1 g1
  have r2 := fun w => run_float_arith (P := Try.prog) w .mul 22 .f64 ah bl x2 f2
  have s2 := fun w => run_float_arith (P := Try.prog) w .add 22 .f64 y1 x2 y2 g2
  have r3 := fun w => run_float_arith (P := Try.prog) w .mul 22 .f64 al bh x3 f3
  have s3 := fun w => run_float_arith (P := Try.prog) w .add 22 .f64 y2 x3 y3 g3
  have r4 := fun w => run_float_arith (P := Try.prog) w .mul 22 .f64 al bl x4 f4
  have s4 := fun w => run_float_arith (P := Try.prog) w .add 22 .f64 y3 x4 e g4
  have KA : Hid _ := fun w => split_walk a ah al sa w
  have KB : Hid _ := fun w => split_walk b bh bl sb w
  clear hp f1 g1 f2 g2 f3 g3 f4 g4 sa sb
  go_enter Try.func19, Try.ntmps19
  go_wp2_with fail
  refine Calls.mono (KA.out _) ?_
  rintro e1 w' ⟨rfl, rfl⟩
  go_wp2_with fail
  refine Calls.mono (KB.out _) ?_
  rintro e1 w' ⟨rfl, rfl⟩
  go_wp2
  refine bodyPost_ret (v := .agg #[.float .f64 p, .float .f64 e]) (by simp [results, Try.results19, go_sem]) rfl ⟨rfl, ?_⟩
  exact (Below.refl _ _).alloc (Nat.le_refl _) _

/-- A row of cells in a world. -/
def Blk (w : World) (k : Nat) (c : Array Value) : Prop := ∃ t, w.heap[k]? = some (.cells c t (0, 0))

theorem Blk.cell {w : World} {k : Nat} {c : Array Value} (h : Blk w k c) : ∀ j, w.cell? ⟨k, j, none⟩ = c[j]? := by
  obtain ⟨t, h⟩ := h
  exact fun j => cell_of_row w k j c t (0, 0) h
theorem Blk.frozen {w : World} {k : Nat} {c : Array Value} (h : Blk w k c) : ∀ j, w.frozen? ⟨k, j, none⟩ = false := by
  obtain ⟨t, h⟩ := h
  intro j; simp [World.frozen?, h]
theorem Blk.lt {w : World} {k : Nat} {c : Array Value} (h : Blk w k c) : k < w.heap.size := by
  obtain ⟨t, h⟩ := h
  exact (Array.getElem?_eq_some_iff.mp h).1
theorem Blk.old {w : World} {k : Nat} {c : Array Value} (h : Blk w k c) (o : Obj) : Blk (w.alloc o) k c := by
  have hl := h.lt
  obtain ⟨t, h⟩ := h
  exact ⟨t, by rw [Below.heap_alloc _ _ _ hl]; exact h⟩
theorem Blk.new (w : World) (c : Array Value) (t : TypeId) : Blk (w.alloc (.cells c t)) w.heap.size c := ⟨t, heap_alloc_new w _⟩
theorem Blk.new1 (w : World) (c : Array Value) (t : TypeId) (o : Obj) : Blk ((w.alloc o).alloc (.cells c t)) (w.heap.size + 1) c := by
  have h := Blk.new (w.alloc o) c t
  simpa using h
theorem Blk.new2 (w : World) (c : Array Value) (t : TypeId) (o o2 : Obj) : Blk (((w.alloc o).alloc o2).alloc (.cells c t)) (w.heap.size + 1 + 1) c := by
  have h := Blk.new ((w.alloc o).alloc o2) c t
  simpa using h
theorem Blk.new3 (w : World) (c : Array Value) (t : TypeId) (o o2 o3 : Obj) : Blk ((((w.alloc o).alloc o2).alloc o3).alloc (.cells c t)) (w.heap.size + 1 + 1 + 1) c := by
  have h := Blk.new (((w.alloc o).alloc o2).alloc o3) c t
  simpa using h
theorem Blk.below {w w1 : World} {k n : Nat} {c : Array Value} (h : Blk w k c) (hb : Below n w w1) (hk : k < n) : Blk w1 k c := by
  obtain ⟨t, h⟩ := h
  exact ⟨t, by rw [hb.block k hk]; exact h⟩
theorem Blk.other {w : World} {k : Nat} {c : Array Value} (h : Blk w k c) (p : Addr) (v : Value) (hp : k ≠ p.block) : Blk (w.setCell p v) k c := by
  obtain ⟨t, h⟩ := h
  exact ⟨t, by rw [Below.heap_setCell _ _ _ _ hp]; exact h⟩
theorem Blk.set2 {w : World} {k : Nat} {a b : Value} (h : Blk w k #[a, b]) (x y : Value) : Blk ((w.setCell ⟨k, 0, none⟩ x).setCell ⟨k, 1, none⟩ y) k #[x, y] := by
  obtain ⟨t, h⟩ := h
  refine ⟨t, ?_⟩
  simp [World.setCell, Array.getElem?_modify, h]
theorem Blk.call {w w1 : World} {k : Nat} {c : Array Value} (h : Blk w k c) (hb : Below w.heap.size w w1) : Blk w1 k c := h.below hb h.lt
theorem Below.up {n : Nat} {a w w1 : World} (h : Below n a w) (hb : Below w.heap.size w w1) (hn : n ≤ w.heap.size) : Below n a w1 := h.trans (hb.mono hn)

set_option maxHeartbeats 400000 in
theorem mul_walk (ah al bh bl h l : Nat) (H : MulW ah al bh bl h l) (w : World) :
    Calls Try.prog 24 #[.agg #[.float .f64 ah, .float .f64 al], .agg #[.float .f64 bh, .float .f64 bl]] w fun e' w' => e' = .returned (.agg #[.float .f64 h, .float .f64 l]) ∧ Below w.heap.size w w' := by
  obtain ⟨p, e, q1, q2, q3, q, TP, f1, f2, f3, f4, QK⟩ := H
  have r1 := fun w => run_float_arith (P := Try.prog) w .mul 22 .f64 ah bl q1 f1
  have r2 := fun w => run_float_arith (P := Try.prog) w .add 22 .f64 e q1 q2 f2
  have r3 := fun w => run_float_arith (P := Try.prog) w .mul 22 .f64 al bh q3 f3
  have r4 := fun w => run_float_arith (P := Try.prog) w .add 22 .f64 q2 q3 q f4
  have KT : Hid _ := fun w => twoProd_walk ah bh p e TP w
  have KQ : Hid _ := fun w => quick_walk p q h l QK w
  clear f1 f2 f3 f4 TP QK
  go_enter Try.func24, Try.ntmps24
  go_wp2_with fail
  refine Calls.mono (KT.out _) ?_
  rintro e1 w1 ⟨rfl, hb1⟩
  have z := hb1.size
  have B1 := (((Blk.new w _ _).old _).old _).call hb1
  have B2 := ((Blk.new1 w _ _ _).old _).call hb1
  have B3 := (Blk.new2 w _ _ _ _).call hb1
  have hB : Below w.heap.size w w1 := Below.up ((((Below.refl _ w).alloc (Nat.le_refl _) _).alloc (by simp) _).alloc (by simp; omega) _) hb1 (by simp; omega)
  clear hb1
  have c1 := B1.cell
  have c2 := B2.cell
  have c3 := B3.cell
  have l1 := B1.lt
  have l2 := B2.lt
  have l3 := B3.lt
  go_wp2_with fail
  refine Calls.mono (KQ.out _) ?_
  rintro e1 w2 ⟨rfl, hb2⟩
  have B3' := (B3.old _).call hb2
  have c3 := B3'.cell
  have c4 := B3'.frozen
  have l3 := B3'.lt
  have hB' : Below w.heap.size w w2 := Below.up (hB.alloc (by omega) _) hb2 (by simp; omega)
  go_wp2
  have B4 := B3'.set2 (.float .f64 h) (.float .f64 l)
  refine bodyPost_ret (v := .agg #[.float .f64 h, .float .f64 l]) (by have c5 := B4.cell; simp [results, Try.results24, go_sem, c5]) rfl ⟨rfl, ?_⟩
  exact (hB'.setCell (by show _ ≤ _ + 1 + 1; omega) _).setCell (by show _ ≤ _ + 1 + 1; omega) _

set_option maxHeartbeats 400000 in
theorem mulFloat_walk (ah al b h l : Nat) (H : MulFW ah al b h l) (w : World) :
    Calls Try.prog 28 #[.agg #[.float .f64 ah, .float .f64 al], .float .f64 b] w fun e' w' => e' = .returned (.agg #[.float .f64 h, .float .f64 l]) ∧ Below w.heap.size w w' := by
  obtain ⟨p, e, q1, q, TP, f1, f2, QK⟩ := H
  have r1 := fun w => run_float_arith (P := Try.prog) w .mul 22 .f64 al b q1 f1
  have r2 := fun w => run_float_arith (P := Try.prog) w .add 22 .f64 e q1 q f2
  have KT : Hid _ := fun w => twoProd_walk ah b p e TP w
  have KQ : Hid _ := fun w => quick_walk p q h l QK w
  clear f1 f2 TP QK
  go_enter Try.func28, Try.ntmps28
  go_wp2_with fail
  refine Calls.mono (KT.out _) ?_
  rintro e1 w1 ⟨rfl, hb1⟩
  have B1 := ((Blk.new w _ _).old _).call hb1
  have B3 := (Blk.new1 w _ _ _).call hb1
  have hB : Below w.heap.size w w1 := Below.up (((Below.refl _ w).alloc (Nat.le_refl _) _).alloc (by simp) _) hb1 (by simp; omega)
  clear hb1
  have c1 := B1.cell
  have c3 := B3.cell
  have l1 := B1.lt
  have l3 := B3.lt
  go_wp2_with fail
  refine Calls.mono (KQ.out _) ?_
  rintro e1 w2 ⟨rfl, hb2⟩
  have B3' := (B3.old _).call hb2
  have c3 := B3'.cell
  have c4 := B3'.frozen
  have l3 := B3'.lt
  have hB' : Below w.heap.size w w2 := Below.up (hB.alloc (by omega) _) hb2 (by simp; omega)
  go_wp2
  have B4 := B3'.set2 (.float .f64 h) (.float .f64 l)
  refine bodyPost_ret (v := .agg #[.float .f64 h, .float .f64 l]) (by have c5 := B4.cell; simp [results, Try.results28, go_sem, c5]) rfl ⟨rfl, ?_⟩
  exact (hB'.setCell (by show _ ≤ _ + 1; omega) _).setCell (by show _ ≤ _ + 1; omega) _

set_option maxHeartbeats 400000 in
theorem add_walk (ah al bh bl x y h l : Nat) (H : AddW ah al bh bl x y h l) (w : World) :
    Calls Try.prog 26 #[.agg #[.float .f64 ah, .float .f64 al], .agg #[.float .f64 bh, .float .f64 bl]] w fun e' w' => e' = .returned (.agg #[.float .f64 h, .float .f64 l]) ∧ Below w.heap.size w w' := by
  obtain ⟨s, sl, t, tl, v1, s2l, T1, T2, f1, Q1, f2, Q2⟩ := H
  have r1 := fun w => run_float_arith (P := Try.prog) w .add 22 .f64 sl t v1 f1
  have r2 := fun w => run_float_arith (P := Try.prog) w .add 22 .f64 s2l tl y f2
  have KT1 : Hid _ := fun w => twoSum_walk ah bh s sl T1 w
  have KT2 : Hid _ := fun w => twoSum_walk al bl t tl T2 w
  have KQ1 : Hid _ := fun w => quick_walk s v1 x s2l Q1 w
  have KQ2 : Hid _ := fun w => quick_walk x y h l Q2 w
  clear f1 f2 T1 T2 Q1 Q2
  go_enter Try.func26, Try.ntmps26
  go_wp2_with fail
  refine Calls.mono (KT1.out _) ?_
  rintro e1 w1 ⟨rfl, hb1⟩
  have B1 := (((Blk.new w _ _).old _).old _).call hb1
  have B2 := ((Blk.new1 w _ _ _).old _).call hb1
  have B3 := (Blk.new2 w _ _ _ _).call hb1
  have hB : Below w.heap.size w w1 := Below.up ((((Below.refl _ w).alloc (Nat.le_refl _) _).alloc (by simp) _).alloc (by simp; omega) _) hb1 (by simp; omega)
  clear hb1
  have c1 := B1.cell
  have c2 := B2.cell
  have c3 := B3.cell
  have l1 := B1.lt
  have l2 := B2.lt
  have l3 := B3.lt
  go_wp2_with fail
  refine Calls.mono (KT2.out _) ?_
  rintro e1 w2 ⟨rfl, hb2⟩
  have B3 := (B3.old _).call hb2
  have BS := (Blk.new w1 _ _).call hb2
  have hB' : Below w.heap.size w w2 := Below.up (hB.alloc (by omega) _) hb2 (by simp; omega)
  clear hb2 hB
  have c3 := B3.cell
  have c4 := BS.cell
  have l3 := B3.lt
  have l4 := BS.lt
  clear c1 c2
  go_wp2_with fail
  refine Calls.mono (KQ1.out _) ?_
  rintro e1 w3 ⟨rfl, hb3⟩
  have B3 := (B3.old _).call hb3
  have BS := (BS.old _).call hb3
  have BT := (Blk.new w2 _ _).call hb3
  have hB3 : Below w.heap.size w w3 := Below.up (hB'.alloc (by omega) _) hb3 (by simp; omega)
  clear hb3 hB'
  have c3 := B3.cell
  have c4 := BS.cell
  have c5 := BT.cell
  have d4 := BS.frozen
  have l3 := B3.lt
  have l4 := BS.lt
  have l5 := BT.lt
  go_wp2_with fail
  refine Calls.mono (KQ2.out _) ?_
  rintro e1 w4 ⟨rfl, hb4⟩
  have B3 := ((B3.other ⟨w1.heap.size, 0, none⟩ _ (by show _ ≠ w1.heap.size; omega)).other ⟨w1.heap.size, 1, none⟩ _ (by show _ ≠ w1.heap.size; omega)).call hb4
  have hB4 : Below w.heap.size w w4 := Below.up ((hB3.setCell (p := ⟨w1.heap.size, 0, none⟩) (by show _ ≤ w1.heap.size; omega) _).setCell (p := ⟨w1.heap.size, 1, none⟩) (by show _ ≤ w1.heap.size; omega) _) hb4 (by simp [World.setCell]; omega)
  have c3 := B3.cell
  have d3 := B3.frozen
  have l3 := B3.lt
  go_wp2
  have B4 := B3.set2 (.float .f64 h) (.float .f64 l)
  refine bodyPost_ret (v := .agg #[.float .f64 h, .float .f64 l]) (by have c5 := B4.cell; simp [results, Try.results26, go_sem, c5]) rfl ⟨rfl, ?_⟩
  exact (hB4.setCell (by show _ ≤ _ + 1 + 1; omega) _).setCell (by show _ ≤ _ + 1 + 1; omega) _

end Go.Proofs.Qxb6604785a
