/-
  The quotient of doubles, walked: its second statement draws its order.
-/
import Derived.Test.Qxb6604785aDdWalk
import Derived.Deep.RegionWith
import Derived.Deep.Cut
import Derived.Deep.CutRange
namespace Go.Proofs.Qxb6604785a
open Go.RowKit
attribute [local go_sem] run_store_f64

theorem run_neg_f64 (w : World) (q : Nat) : (Op.unary .neg (.float .f64 q)).run Try.prog w = .ok (.float .f64 (Op.negFloat .f64 q)) w := by
  simp [Op.unary, go_sem]
attribute [local go_sem] run_neg_f64

theorem Blk.drew {w : World} {k : Nat} {c : Array Value} (h : Blk w k c) : Blk w.drew k c := h

theorem bring {p q : Prop} (h : p) (k : p → q) : q := k h

theorem quo_end1 {w w2 : World} {c2 c3 : Array Value} {x y : Value} (B2 : Blk w2 (w.heap.size + 1) c2) (B3 : Blk w2 (w.heap.size + 1 + 1) c3) (hB : Below w.heap.size w w2) :
    ∃ k, Value.pointer (some ⟨w2.heap.size, 0, none⟩) = .pointer (some ⟨k, 0, none⟩) ∧ w.heap.size + 1 + 1 < k ∧ Blk (w2.alloc (.cells #[x, y] 43)) k #[x, y] ∧ Blk (w2.alloc (.cells #[x, y] 43)) (w.heap.size + 1) c2 ∧
      Blk (w2.alloc (.cells #[x, y] 43)) (w.heap.size + 1 + 1) c3 ∧ Below w.heap.size w (w2.alloc (.cells #[x, y] 43)) :=
  ⟨_, rfl, B3.lt, Blk.new _ _ _, B2.old _, B3.old _, hB.alloc (by have := B3.lt; omega) _⟩

theorem quo_end2 {w w2 : World} {c2 c3 : Array Value} {x y a b : Value} {k : Nat} (hk : w.heap.size + 1 + 1 < k) (BR : Blk w2 k #[a, b]) (B2 : Blk w2 (w.heap.size + 1) c2) (B3 : Blk w2 (w.heap.size + 1 + 1) c3) (hB : Below w.heap.size w w2) :
    ∃ k', Value.pointer (some ⟨k, 0, none⟩) = .pointer (some ⟨k', 0, none⟩) ∧ w.heap.size + 1 + 1 < k' ∧ Blk ((w2.setCell ⟨k, 0, none⟩ x).setCell ⟨k, 1, none⟩ y) k' #[x, y] ∧ Blk ((w2.setCell ⟨k, 0, none⟩ x).setCell ⟨k, 1, none⟩ y) (w.heap.size + 1) c2 ∧
      Blk ((w2.setCell ⟨k, 0, none⟩ x).setCell ⟨k, 1, none⟩ y) (w.heap.size + 1 + 1) c3 ∧ Below w.heap.size w ((w2.setCell ⟨k, 0, none⟩ x).setCell ⟨k, 1, none⟩ y) :=
  ⟨_, rfl, hk, BR.set2 _ _, (B2.other _ _ (by show _ ≠ k; omega)).other _ _ (by show _ ≠ k; omega), (B3.other _ _ (by show _ ≠ k; omega)).other _ _ (by show _ ≠ k; omega),
    (hB.setCell (p := ⟨k, 0, none⟩) (by show _ ≤ k; omega) _).setCell (p := ⟨k, 1, none⟩) (by show _ ≤ k; omega) _⟩

set_option maxHeartbeats 8000000 in
theorem quo_walk (ah al bh bl h l : Nat) (H : QuoW ah al bh bl h l) (w : World) :
    Calls Try.prog 25 #[.agg #[.float .f64 ah, .float .f64 al], .agg #[.float .f64 bh, .float .f64 bl]] w fun e' w' => e' = .returned (.agg #[.float .f64 h, .float .f64 l]) ∧ Below w.heap.size w w' := by
  obtain ⟨q, mh, ml, x, y, rh, rl, d, f1, MF, AD, f2, Q2⟩ := H
  have r1 := fun w => run_float_arith (P := Try.prog) w .quo 22 .f64 ah bh q f1
  have r2 := fun w => run_float_arith (P := Try.prog) w .quo 22 .f64 rh bh d f2
  have KM : Hid _ := fun w => mulFloat_walk bh bl (Op.negFloat .f64 q) mh ml MF w
  have KA : Hid _ := fun w => add_walk ah al mh ml x y rh rl AD w
  have KQ : Hid _ := fun w => quick_walk q d h l Q2 w
  clear f1 f2 MF AD Q2
  go_enter Try.func25, Try.ntmps25
  go_upto_region 2 with fail
  have B1 := (((Blk.new w #[.float .f64 ah, .float .f64 al] 43).old (.cells #[.float .f64 bh, .float .f64 bl] 43)).old (.cells #[.float .f64 0, .float .f64 0] 43))
  have B2 := ((Blk.new1 w #[.float .f64 bh, .float .f64 bl] 43 (.cells #[.float .f64 ah, .float .f64 al] 43)).old (.cells #[.float .f64 0, .float .f64 0] 43))
  have B3 := (Blk.new2 w #[.float .f64 0, .float .f64 0] 43 (.cells #[.float .f64 ah, .float .f64 al] 43) (.cells #[.float .f64 bh, .float .f64 bl] 43))
  have hB : Below w.heap.size w (((w.alloc (.cells #[.float .f64 ah, .float .f64 al] 43)).alloc (.cells #[.float .f64 bh, .float .f64 bl] 43)).alloc (.cells #[.float .f64 0, .float .f64 0] 43)) := ((((Below.refl _ w).alloc (Nat.le_refl _) _).alloc (by simp) _).alloc (by simp; omega) _)
  generalize hW : (((w.alloc (.cells #[.float .f64 ah, .float .f64 al] 43)).alloc (.cells #[.float .f64 bh, .float .f64 bl] 43)).alloc (.cells #[.float .f64 0, .float .f64 0] 43)) = W at B1 B2 B3 hB ⊢
  clear hW
  have c1 := B1.cell
  have c2 := B2.cell
  have c3 := B3.cell
  have l1 := B1.lt
  have l2 := B2.lt
  have l3 := B3.lt
  go_cut [6] from 7 to 24 (fun s6 wx => ∃ k, s6 = .pointer (some ⟨k, 0, none⟩) ∧ w.heap.size + 1 + 1 < k ∧ Blk wx k #[.float .f64 rh, .float .f64 rl] ∧ Blk wx (w.heap.size + 1) #[.float .f64 bh, .float .f64 bl] ∧ Blk wx (w.heap.size + 1 + 1) #[.float .f64 0, .float .f64 0] ∧ Below w.heap.size w wx)
  case first =>
    go_region_with (first
      | (go_at_call 28
         refine Calls.mono (KM.out _) ?_
         rintro e1 w1 ⟨rfl, hb⟩
         have B1 : Blk w1 w.heap.size #[.float .f64 ah, .float .f64 al] := Blk.call (by (repeat (first | with_reducible assumption | exact Blk.new _ _ _ | with_reducible refine Blk.old ?_ _ | with_reducible refine Blk.drew ?_))) hb
         have B2 : Blk w1 (w.heap.size + 1) #[.float .f64 bh, .float .f64 bl] := Blk.call (by (repeat (first | with_reducible assumption | exact Blk.new _ _ _ | with_reducible refine Blk.old ?_ _ | with_reducible refine Blk.drew ?_))) hb
         have B3 : Blk w1 (w.heap.size + 1 + 1) #[.float .f64 0, .float .f64 0] := Blk.call (by (repeat (first | with_reducible assumption | exact Blk.new _ _ _ | with_reducible refine Blk.old ?_ _ | with_reducible refine Blk.drew ?_))) hb
         have hB : Below w.heap.size w w1 := Below.up (by (repeat (first | with_reducible assumption | (with_reducible refine Below.alloc ?_ ?hz _; case hz => first | omega | (simp; omega)) | with_reducible refine Below.drew ?_))) hb (by first | omega | (simp; omega))
         try (refine bring (p := Blk w1 W.heap.size #[.float .f64 0, .float .f64 0]) (Blk.call ?_ hb) (fun BR => ?_); (focus ((repeat (first | with_reducible assumption | exact Blk.new _ _ _ | with_reducible refine Blk.old ?_ _ | with_reducible refine Blk.drew ?_)); done)); have cR := BR.cell; have dR := BR.frozen; have lR := BR.lt)
         have c1 := B1.cell
         have c2 := B2.cell
         have l1 := B1.lt
         have l2 := B2.lt
         have l3 := B3.lt
         clear hb)
      | (go_at_call 26
         refine Calls.mono (KA.out _) ?_
         rintro e1 w2 ⟨rfl, hb⟩
         have B1 : Blk w2 w.heap.size #[.float .f64 ah, .float .f64 al] := Blk.call (by (repeat (first | with_reducible assumption | exact Blk.new _ _ _ | with_reducible refine Blk.old ?_ _ | with_reducible refine Blk.drew ?_))) hb
         have B2 : Blk w2 (w.heap.size + 1) #[.float .f64 bh, .float .f64 bl] := Blk.call (by (repeat (first | with_reducible assumption | exact Blk.new _ _ _ | with_reducible refine Blk.old ?_ _ | with_reducible refine Blk.drew ?_))) hb
         have B3 : Blk w2 (w.heap.size + 1 + 1) #[.float .f64 0, .float .f64 0] := Blk.call (by (repeat (first | with_reducible assumption | exact Blk.new _ _ _ | with_reducible refine Blk.old ?_ _ | with_reducible refine Blk.drew ?_))) hb
         have hB : Below w.heap.size w w2 := Below.up (by (repeat (first | with_reducible assumption | (with_reducible refine Below.alloc ?_ ?hz _; case hz => first | omega | (simp; omega)) | with_reducible refine Below.drew ?_))) hb (by first | omega | (simp; omega))
         first | (refine bring (p := Blk w2 W.heap.size #[.float .f64 0, .float .f64 0]) (Blk.call ?_ hb) (fun BR => ?_); (focus ((repeat (first | with_reducible assumption | exact Blk.new _ _ _ | with_reducible refine Blk.old ?_ _ | with_reducible refine Blk.drew ?_)); done)); have cR := BR.cell; have dR := BR.frozen; have lR := BR.lt) | (refine bring (p := Blk w2 w1.heap.size #[.float .f64 0, .float .f64 0]) (Blk.call ?_ hb) (fun BR => ?_); (focus ((repeat (first | with_reducible assumption | exact Blk.new _ _ _ | with_reducible refine Blk.old ?_ _ | with_reducible refine Blk.drew ?_)); done)); have cR := BR.cell; have dR := BR.frozen; have lR := BR.lt) | skip
         have c1 := B1.cell
         have c2 := B2.cell
         have l1 := B1.lt
         have l2 := B2.lt
         have l3 := B3.lt
         clear hb))
    all_goals (go_wp2_with fail; go_meet)
    all_goals first | with_reducible exact quo_end1 B2 B3 hB | with_reducible exact quo_end2 (by omega) BR B2 B3 hB
  case rest =>
    obtain ⟨k, rfl, hk, BR, B2, B3, hB⟩ := hcut
    clear c1 c2 c3
    have c1 := BR.cell
    have c2 := B2.cell
    have c3 := B3.cell
    have l1 := BR.lt
    have l2 := B2.lt
    have l3 := B3.lt
    go_wp2_with fail
    refine Calls.mono (KQ.out _) ?_
    rintro e1 w2 ⟨rfl, hb2⟩
    have B3' := B3.call hb2
    have c3 := B3'.cell
    have c4 := B3'.frozen
    have l3 := B3'.lt
    have hB' : Below w.heap.size w w2 := Below.up hB hb2 (by omega)
    go_wp2
    have B4 := B3'.set2 (.float .f64 h) (.float .f64 l)
    refine bodyPost_ret (v := .agg #[.float .f64 h, .float .f64 l]) (by have c5 := B4.cell; simp [results, Try.results25, go_sem, c5]) rfl ⟨rfl, ?_⟩
    exact (hB'.setCell (by show _ ≤ _ + 1 + 1; omega) _).setCell (by show _ ≤ _ + 1 + 1; omega) _

end Go.Proofs.Qxb6604785a
