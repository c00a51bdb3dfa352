/-
  normalSeries, walked, and its two halves handed out.
-/
import Derived.Test.Qxb6604785aQuoWalk
import Derived.Test.Qxb6604785aLoop
import Derived.Deep.LoopGhost
import Derived.Deep.QuietTactic
import Derived.BigQuiet
namespace Go.Proofs.Qxb6604785a
open Go.RowKit
attribute [local go_sem] run_store_f64

theorem bsize {a b : World} {n : Nat} (h : Below n a b) : a.heap.size ≤ b.heap.size := h.size

set_option maxHeartbeats 1000000 in
theorem ns_walk (t qh ql f : Nat) (P : Nat → Nat → Prop) (TP : TwoProdW t t qh ql) (G : Goes qh ql P f t 0 t 0 w1) (w : World) :
    Calls Try.prog 22 #[.float .f64 t] w fun e' w' => (∃ h l, P h l ∧ e' = .returned (.agg #[.float .f64 h, .float .f64 l])) ∧ Below w.heap.size w w' := by
  have KT : Hid _ := fun w => twoProd_walk t t qh ql TP w
  have GG : Hid _ := G
  clear TP G
  go_enter Try.func22, Try.ntmps22
  go_wp2_with fail
  refine Calls.mono (KT.out _) ?_
  rintro e1 W1 ⟨rfl, hb1⟩
  have B2 := (Blk.new w _ _).call hb1
  have hB : Below w.heap.size w W1 := Below.up ((Below.refl _ w).alloc (Nat.le_refl _) _) hb1 (by simp)
  clear hb1
  have l2 := B2.lt
  go_wp2_with fail
  have B3 := ((Blk.new W1 #[.float .f64 qh, .float .f64 ql] 43).old (.cells #[.float .f64 t, .float .f64 0] 43)).old (.cells #[.float .f64 t, .float .f64 0] 43)
  have B4 := (Blk.new1 W1 #[.float .f64 t, .float .f64 0] 43 (.cells #[.float .f64 qh, .float .f64 ql] 43)).old (.cells #[.float .f64 t, .float .f64 0] 43)
  have B5 := (Blk.new2 W1 #[.float .f64 t, .float .f64 0] 43 (.cells #[.float .f64 qh, .float .f64 ql] 43) (.cells #[.float .f64 t, .float .f64 0] 43))
  have B2' := ((B2.old (.cells #[.float .f64 qh, .float .f64 ql] 43)).old (.cells #[.float .f64 t, .float .f64 0] 43)).old (.cells #[.float .f64 t, .float .f64 0] 43)
  have hB' := ((hB.alloc (by omega) (.cells #[.float .f64 qh, .float .f64 ql] 43)).alloc (by simp; omega) (.cells #[.float .f64 t, .float .f64 0] 43)).alloc (by simp; omega) (.cells #[.float .f64 t, .float .f64 0] 43)
  have HS : Hid _ := And.intro B2' (And.intro B3 (And.intro B4 (And.intro B5 hB')))
  clear B2 B3 B4 B5 B2' hB' hB
  go_loopg [6] f (fun k s6 wr => ∃ th tl sh sl n, s6 = .float .f64 n ∧ Goes qh ql P k th tl sh sl n ∧ Blk wr w.heap.size #[.float .f64 0, .float .f64 0] ∧ Blk wr W1.heap.size #[.float .f64 qh, .float .f64 ql] ∧ Blk wr (W1.heap.size + 1) #[.float .f64 th, .float .f64 tl] ∧ Blk wr (W1.heap.size + 1 + 1) #[.float .f64 sh, .float .f64 sl] ∧ Below w.heap.size w wr)
  case atStart =>
    obtain ⟨a1, a2, a3, a4, a5⟩ := HS.out
    exact ⟨t, 0, t, 0, w1, rfl, GG.out, a1, a2, a3, a4, a5⟩
  case round =>
    clear HS GG
    obtain ⟨th, tl, sh, sl, n, rfl, G, B2, B3, B4, B5, hB⟩ := hrel
    cases gk with
    | zero =>
      obtain ⟨⟨c, hc, ho⟩, hP⟩ := G
      have r80 := fun w => run_float_arith (P := Try.prog) w .mul 22 .f64 w80 sh c hc
      unfold w80 at r80
      have ho' : (FloatKind.f64.format.order th c == some .gt) = false := ho
      clear hc ho
      have c2 := B2.cell
      have d2 := B2.frozen
      have c4 := B4.cell
      have c5 := B5.cell
      go_wp2
      have B6 := B2.set2 (.float .f64 sh) (.float .f64 sl)
      refine bodyPost_ret (v := .agg #[.float .f64 sh, .float .f64 sl]) (by have c5 := B6.cell; simp [results, Try.results22, go_sem, c5]) rfl ⟨⟨sh, sl, hP, rfl⟩, ?_⟩
      exact (hB.setCell (p := ⟨w.heap.size, 0, none⟩) (Nat.le_refl _) _).setCell (p := ⟨w.heap.size, 1, none⟩) (Nat.le_refl _) _
    | succ g =>
      obtain ⟨⟨c, hc, ho⟩, th', tl', sh', sl', n', ⟨ph, pl, d, m, x, y, MW, hd, hm, QW, AW, hn⟩, G⟩ := G
      have r80 := fun w => run_float_arith (P := Try.prog) w .mul 22 .f64 w80 sh c hc
      unfold w80 at r80
      have rd := fun w => run_float_arith (P := Try.prog) w .mul 22 .f64 w2 n d hd
      unfold w2 at rd
      have rm := fun w => run_float_arith (P := Try.prog) w .add 22 .f64 d w1 m hm
      unfold w1 at rm
      have rn := fun w => run_float_arith (P := Try.prog) w .add 22 .f64 n w1 n' hn
      unfold w1 at rn
      have KM : Hid _ := fun w => mul_walk th tl qh ql ph pl MW w
      have KQ : Hid _ := fun w => quo_walk ph pl m 0 th' tl' QW w
      have KA : Hid _ := fun w => add_walk sh sl th' tl' x y sh' sl' AW w
      have GG : Hid _ := G
      have ho' : (FloatKind.f64.format.order th c == some .gt) = true := ho
      clear ho hc hd hm hn MW QW AW G KT
      have c3 := B3.cell
      have c4 := B4.cell
      have c5 := B5.cell
      go_wp2_with fail
      refine Calls.mono (KM.out _) ?_
      rintro e1 V1 ⟨rfl, hb⟩
      have B2 := B2.call hb
      have B3 := B3.call hb
      have B4 := B4.call hb
      have B5 := B5.call hb
      have hB : Below w.heap.size w V1 := Below.up hB hb (by have := bsize hB; omega)
      clear hb c3 c4 c5
      go_wp2_with fail
      refine Calls.mono (KQ.out _) ?_
      rintro e1 V2 ⟨rfl, hb⟩
      have B2 := B2.call hb
      have B3 := B3.call hb
      have B4 := B4.call hb
      have B5 := B5.call hb
      have hB : Below w.heap.size w V2 := Below.up hB hb (by have := bsize hB; omega)
      clear hb
      have c4 := B4.cell
      have d4 := B4.frozen
      have c5 := B5.cell
      go_wp2_with fail
      refine Calls.mono (KA.out _) ?_
      rintro e1 V3 ⟨rfl, hb⟩
      have B4 := (B4.set2 (.float .f64 th') (.float .f64 tl')).call hb
      have B2 := ((B2.other ⟨W1.heap.size + 1, 0, none⟩ (.float .f64 th') (by show _ ≠ W1.heap.size + 1; omega)).other ⟨W1.heap.size + 1, 1, none⟩ (.float .f64 tl') (by show _ ≠ W1.heap.size + 1; omega)).call hb
      have B3 := ((B3.other ⟨W1.heap.size + 1, 0, none⟩ (.float .f64 th') (by show _ ≠ W1.heap.size + 1; omega)).other ⟨W1.heap.size + 1, 1, none⟩ (.float .f64 tl') (by show _ ≠ W1.heap.size + 1; omega)).call hb
      have B5 := ((B5.other ⟨W1.heap.size + 1, 0, none⟩ (.float .f64 th') (by show _ ≠ W1.heap.size + 1; omega)).other ⟨W1.heap.size + 1, 1, none⟩ (.float .f64 tl') (by show _ ≠ W1.heap.size + 1; omega)).call hb
      have hB : Below w.heap.size w V3 := Below.up ((hB.setCell (p := ⟨W1.heap.size + 1, 0, none⟩) (by show _ ≤ W1.heap.size + 1; omega) _).setCell (p := ⟨W1.heap.size + 1, 1, none⟩) (by show _ ≤ W1.heap.size + 1; omega) _) hb (by have := bsize hB; simp [World.setCell]; omega)
      clear hb c4 d4 c5
      have c5 := B5.cell
      have d5 := B5.frozen
      go_wp2_with fail
      have B5 := B5.set2 (.float .f64 sh') (.float .f64 sl')
      have B2 := (B2.other ⟨W1.heap.size + 1 + 1, 0, none⟩ (.float .f64 sh') (by show _ ≠ W1.heap.size + 1 + 1; omega)).other ⟨W1.heap.size + 1 + 1, 1, none⟩ (.float .f64 sl') (by show _ ≠ W1.heap.size + 1 + 1; omega)
      have B3 := (B3.other ⟨W1.heap.size + 1 + 1, 0, none⟩ (.float .f64 sh') (by show _ ≠ W1.heap.size + 1 + 1; omega)).other ⟨W1.heap.size + 1 + 1, 1, none⟩ (.float .f64 sl') (by show _ ≠ W1.heap.size + 1 + 1; omega)
      have B4 := (B4.other ⟨W1.heap.size + 1 + 1, 0, none⟩ (.float .f64 sh') (by show _ ≠ W1.heap.size + 1 + 1; omega)).other ⟨W1.heap.size + 1 + 1, 1, none⟩ (.float .f64 sl') (by show _ ≠ W1.heap.size + 1 + 1; omega)
      have hB := (hB.setCell (p := ⟨W1.heap.size + 1 + 1, 0, none⟩) (by show _ ≤ W1.heap.size + 1 + 1; omega) (.float .f64 sh')).setCell (p := ⟨W1.heap.size + 1 + 1, 1, none⟩) (by show _ ≤ W1.heap.size + 1 + 1; omega) (.float .f64 sl')
      go_roundg g
      case measure => exact Nat.lt_succ_self g
      case rel => exact ⟨th', tl', sh', sl', n', rfl, GG.out, B2, B3, B4, B5, hB⟩

/-- The two halves, handed out. -/
theorem zz_walk (t : Nat) (P : Nat → Nat → Prop) (K : ∀ w : World, Calls Try.prog 22 #[.float .f64 t] w fun e' w' => (∃ h l, P h l ∧ e' = .returned (.agg #[.float .f64 h, .float .f64 l])) ∧ Below w.heap.size w w') (w : World) :
    Calls Try.prog 18 #[.float .f64 t] w fun e' w' => (∃ h l, P h l ∧ e' = .returned (.tuple #[.float .f64 h, .float .f64 l])) ∧ Below w.heap.size w w' := by
  have KK : Hid _ := K
  clear K
  go_enter Try.func18, Try.ntmps18
  go_wp2_with fail
  refine Calls.mono (KK.out _) ?_
  rintro e1 W1 ⟨⟨h, l, hP, rfl⟩, hb1⟩
  have hB : Below w.heap.size w (W1.alloc (.cells #[.float .f64 h, .float .f64 l] 43)) := hb1.alloc hb1.size _
  go_wp2_with fail
  go_quiet (fail)
  go_wp2
  go_ret2
  exact ⟨⟨h, l, hP, rfl⟩, hB.trans ⟨rfl, rfl, rfl, Nat.le_refl _, fun _ _ => rfl⟩⟩

end Go.Proofs.Qxb6604785a
