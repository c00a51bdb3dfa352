/-
  zzUnquote (14), walked over a quoted text: it hands back the bytes and the text's length.
-/
import Derived.Test.Qxb6604270aHexWalk
import Derived.Test.Qxb6604270aUnqPlain
import Derived.Test.Qxb6604270aNil
namespace Go.Proofs.Qxb6604270a
open Go.RowKit

theorem buf_next {W wr : World} {r : Option Nat} {v : Value} {l : List Int} {k : Nat} (hk : k < l.length) (h : Buf W r v (l.take k ++ [l[k]]) wr) : Buf W r v (l.take (k + 1)) wr := by
  rw [take_snocI l k hk]; exact h

/-- The loop's relation at the next byte. -/
theorem unq_rel {W wr : World} {v : Value} {l : List Int} {k m : Nat} {p : Int} (hk : k < l.length) (hm : (esc l[k]).length = m) (hp : p = (at_ l k : Int) + (m : Int)) (h : Buf W none v (l.take k ++ [l[k]]) wr) :
    ∃ k' : Nat, k' ≤ l.length ∧ Value.int .i64 p = .int .i64 (at_ l k' : Int) ∧ Buf W none v (l.take k') wr :=
  ⟨k + 1, hk, by rw [at_next hk, hm, hp]; simp, buf_next hk h⟩

set_option maxRecDepth 20000 in
set_option maxHeartbeats 4000000 in
theorem unquote_any (g n cap : Nat) (l : List Int) (w : World) (hl : l.length ≤ 1048576) (hb : ∀ c ∈ l, 0 ≤ c ∧ c ≤ 255) (hg : g < w.heap.size) (hcap : (quoT l).length ≤ cap)
    (hc : ∀ j, j < (quoT l).length → w.cell? ⟨g, n + j, none⟩ = some (.int .u8 ((quoT l).getD j 0))) :
    Calls Try.prog 14 #[.slice (some ⟨g, n, none⟩) (quoT l).length cap] w fun e w' => ∃ v, e = .returned (.tuple #[v, .int .i64 ((quoT l).length : Nat), .bool true]) ∧ Buf w none v l w' := by
  have e0 := quoT_end l
  have l0 := (escs_len l).2
  obtain ⟨m, hm⟩ : ∃ m, m = (quoT l).length := ⟨_, rfl⟩
  have hm1 : 2 ≤ m := by rw [hm]; simp [quoT]
  have hm0 : ((m : Int) == 0) = false := by simp; omega
  have hmb : m ≤ 6291458 := by rw [hm]; simp [quoT]; omega
  have q0 : w.cell? ⟨g, n, none⟩ = some (.int .u8 34) := by have := hc 0 (by omega); rw [quoT_first] at this; simpa using this
  rw [← hm] at hcap hc e0 ⊢
  have HC : Hid _ := hc
  have HM : Hid _ := hm
  have HE : Hid _ := e0
  clear hc hm e0 l0
  go_enter Try.func14, Try.ntmps14
  go_wp2
  go_loopw [5, 6] (fun v i wr => ∃ k : Nat, k ≤ l.length ∧ i = .int .i64 (at_ l k : Int) ∧ Buf w none v (l.take k) wr) (fun _ i _ => m - (intOf i).toNat)
  case atStart => exact ⟨0, Nat.zero_le _, by rw [at_zero]; rfl, World.ownsRow_nil w 0 5 1, World.grownBy.refl _ _, fun _ h => by simp [Value.ownBlock] at h⟩
  case round =>
    obtain ⟨k, hk, rfl, hBr⟩ := hrel
    obtain ⟨p, hp⟩ : ∃ p, p = at_ l k := ⟨_, rfl⟩
    rw [← hp]
    have cellAt : Hid (∀ j, j < m → wr.cell? ⟨g, n + j, none⟩ = some (.int .u8 ((quoT l).getD j 0))) := fun j hj => by
      rw [World.cell?_of_block (hBr.2.1.block g hg (by simp))]
      exact HC.out j hj
    have hkl : (l.take k).length ≤ 1048576 := by simp; omega
    by_cases hlt : k < l.length
    · have room := quoT_room hlt
      have spot := quoT_at hlt
      have hbd := hb l[k] (List.getElem_mem hlt)
      rw [← hp, ← HM.out] at room
      rw [← hp] at spot
      obtain ⟨c, hcc⟩ : ∃ c, c = l[k] := ⟨_, rfl⟩
      rw [← hcc] at room spot hbd
      have P : Hid (p = at_ l k) := hp
      have CC : Hid (c = l[k]) := hcc
      clear hp hcc hb
      have step : Hid (∀ (v : Value) (wx : World) (mm : Nat) (pp : Int), (esc c).length = mm → pp = (p : Int) + (mm : Int) → Buf w none v (l.take k ++ [c]) wx → ∃ k' : Nat, k' ≤ l.length ∧ Value.int .i64 pp = .int .i64 (at_ l k' : Int) ∧ Buf w none v (l.take k') wx) := by
        intro v wx mm pp h1 h2 h3
        rw [CC.out] at h1 h3
        exact unq_rel hlt h1 (by rw [← P.out]; exact h2) h3
      rcases esc_cases c hbd.1 with ⟨h32, n34, n92, he⟩ | ⟨ec, he⟩ | ⟨ec, he⟩ | ⟨ec, he⟩ | ⟨ec, he⟩ | ⟨ec, he⟩ | ⟨ec, he⟩ | ⟨ec, he⟩ | ⟨h32, x, y, he, hx, x0, x1, y0, y1⟩
      · rw [he] at spot room
        have HE1 : Hid _ := he
        clear he
        have c0 : wr.cell? ⟨g, n + p, none⟩ = some (.int .u8 c) := by have h := spot 0 (by simp); rw [Nat.add_zero] at h; rw [cellAt.out p (by simp at room; omega), h]; rfl
        have i0 : (p : Int) < (m : Int) := by simp at room; omega
        clear spot room
        as_aux_lemma =>
        go_wp2_with (at_builtin; refine wpList_bytes rfl (.tmp 36) (.tmp 38) rfl _ _ rfl _ _ _ hBr [c] 1 rfl rfl _ rfl (by omega) ?_; intro v1 w1 hB1)
        go_roundw
        case rel => exact step.out _ _ 1 _ (by rw [HE1.out]; rfl) rfl hB1
        case measure => simp [intOf]; omega
      · subst ec
        rw [he] at spot room
        have HE1 : Hid _ := he
        clear he
        have c0 : wr.cell? ⟨g, n + p, none⟩ = some (.int .u8 92) := by have h := spot 0 (by simp); rw [Nat.add_zero] at h; rw [cellAt.out p (by simp at room; omega), h]; rfl
        have c1 : wr.cell? ⟨g, n + (p + 1), none⟩ = some (.int .u8 34) := by have h := spot 1 (by simp); rw [cellAt.out (p + 1) (by simp at room; omega), h]; rfl
        have i0 : (p : Int) + 1 < (m : Int) := by simp at room; omega
        clear spot room
        as_aux_lemma =>
        go_wp2_with (at_builtin; refine wpList_bytes rfl (.tmp 54) (.tmp 55) rfl _ _ rfl _ _ _ hBr [34] 1 rfl rfl _ rfl (by omega) ?_; intro v1 w1 hB1)
        go_roundw
        case rel => exact step.out _ _ 2 _ (by rw [HE1.out]; rfl) rfl hB1
        case measure => simp [intOf]; omega
      · subst ec
        rw [he] at spot room
        have HE1 : Hid _ := he
        clear he
        have c0 : wr.cell? ⟨g, n + p, none⟩ = some (.int .u8 92) := by have h := spot 0 (by simp); rw [Nat.add_zero] at h; rw [cellAt.out p (by simp at room; omega), h]; rfl
        have c1 : wr.cell? ⟨g, n + (p + 1), none⟩ = some (.int .u8 92) := by have h := spot 1 (by simp); rw [cellAt.out (p + 1) (by simp at room; omega), h]; rfl
        have i0 : (p : Int) + 1 < (m : Int) := by simp at room; omega
        clear spot room
        as_aux_lemma =>
        go_wp2_with (at_builtin; refine wpList_bytes rfl (.tmp 59) (.tmp 60) rfl _ _ rfl _ _ _ hBr [92] 1 rfl rfl _ rfl (by omega) ?_; intro v1 w1 hB1)
        go_roundw
        case rel => exact step.out _ _ 2 _ (by rw [HE1.out]; rfl) rfl hB1
        case measure => simp [intOf]; omega
      · subst ec
        rw [he] at spot room
        have HE1 : Hid _ := he
        clear he
        have c0 : wr.cell? ⟨g, n + p, none⟩ = some (.int .u8 92) := by have h := spot 0 (by simp); rw [Nat.add_zero] at h; rw [cellAt.out p (by simp at room; omega), h]; rfl
        have c1 : wr.cell? ⟨g, n + (p + 1), none⟩ = some (.int .u8 98) := by have h := spot 1 (by simp); rw [cellAt.out (p + 1) (by simp at room; omega), h]; rfl
        have i0 : (p : Int) + 1 < (m : Int) := by simp at room; omega
        clear spot room
        as_aux_lemma =>
        go_wp2_with (at_builtin; refine wpList_bytes rfl (.tmp 69) (.tmp 70) rfl _ _ rfl _ _ _ hBr [8] 1 rfl rfl _ rfl (by omega) ?_; intro v1 w1 hB1)
        go_roundw
        case rel => exact step.out _ _ 2 _ (by rw [HE1.out]; rfl) rfl hB1
        case measure => simp [intOf]; omega
      · subst ec
        rw [he] at spot room
        have HE1 : Hid _ := he
        clear he
        have c0 : wr.cell? ⟨g, n + p, none⟩ = some (.int .u8 92) := by have h := spot 0 (by simp); rw [Nat.add_zero] at h; rw [cellAt.out p (by simp at room; omega), h]; rfl
        have c1 : wr.cell? ⟨g, n + (p + 1), none⟩ = some (.int .u8 116) := by have h := spot 1 (by simp); rw [cellAt.out (p + 1) (by simp at room; omega), h]; rfl
        have i0 : (p : Int) + 1 < (m : Int) := by simp at room; omega
        clear spot room
        as_aux_lemma =>
        go_wp2_with (at_builtin; refine wpList_bytes rfl (.tmp 74) (.tmp 75) rfl _ _ rfl _ _ _ hBr [9] 1 rfl rfl _ rfl (by omega) ?_; intro v1 w1 hB1)
        go_roundw
        case rel => exact step.out _ _ 2 _ (by rw [HE1.out]; rfl) rfl hB1
        case measure => simp [intOf]; omega
      · subst ec
        rw [he] at spot room
        have HE1 : Hid _ := he
        clear he
        have c0 : wr.cell? ⟨g, n + p, none⟩ = some (.int .u8 92) := by have h := spot 0 (by simp); rw [Nat.add_zero] at h; rw [cellAt.out p (by simp at room; omega), h]; rfl
        have c1 : wr.cell? ⟨g, n + (p + 1), none⟩ = some (.int .u8 110) := by have h := spot 1 (by simp); rw [cellAt.out (p + 1) (by simp at room; omega), h]; rfl
        have i0 : (p : Int) + 1 < (m : Int) := by simp at room; omega
        clear spot room
        as_aux_lemma =>
        go_wp2_with (at_builtin; refine wpList_bytes rfl (.tmp 79) (.tmp 80) rfl _ _ rfl _ _ _ hBr [10] 1 rfl rfl _ rfl (by omega) ?_; intro v1 w1 hB1)
        go_roundw
        case rel => exact step.out _ _ 2 _ (by rw [HE1.out]; rfl) rfl hB1
        case measure => simp [intOf]; omega
      · subst ec
        rw [he] at spot room
        have HE1 : Hid _ := he
        clear he
        have c0 : wr.cell? ⟨g, n + p, none⟩ = some (.int .u8 92) := by have h := spot 0 (by simp); rw [Nat.add_zero] at h; rw [cellAt.out p (by simp at room; omega), h]; rfl
        have c1 : wr.cell? ⟨g, n + (p + 1), none⟩ = some (.int .u8 102) := by have h := spot 1 (by simp); rw [cellAt.out (p + 1) (by simp at room; omega), h]; rfl
        have i0 : (p : Int) + 1 < (m : Int) := by simp at room; omega
        clear spot room
        as_aux_lemma =>
        go_wp2_with (at_builtin; refine wpList_bytes rfl (.tmp 84) (.tmp 85) rfl _ _ rfl _ _ _ hBr [12] 1 rfl rfl _ rfl (by omega) ?_; intro v1 w1 hB1)
        go_roundw
        case rel => exact step.out _ _ 2 _ (by rw [HE1.out]; rfl) rfl hB1
        case measure => simp [intOf]; omega
      · subst ec
        rw [he] at spot room
        have HE1 : Hid _ := he
        clear he
        have c0 : wr.cell? ⟨g, n + p, none⟩ = some (.int .u8 92) := by have h := spot 0 (by simp); rw [Nat.add_zero] at h; rw [cellAt.out p (by simp at room; omega), h]; rfl
        have c1 : wr.cell? ⟨g, n + (p + 1), none⟩ = some (.int .u8 114) := by have h := spot 1 (by simp); rw [cellAt.out (p + 1) (by simp at room; omega), h]; rfl
        have i0 : (p : Int) + 1 < (m : Int) := by simp at room; omega
        clear spot room
        as_aux_lemma =>
        go_wp2_with (at_builtin; refine wpList_bytes rfl (.tmp 89) (.tmp 90) rfl _ _ rfl _ _ _ hBr [13] 1 rfl rfl _ rfl (by omega) ?_; intro v1 w1 hB1)
        go_roundw
        case rel => exact step.out _ _ 2 _ (by rw [HE1.out]; rfl) rfl hB1
        case measure => simp [intOf]; omega
      · rw [he] at spot room
        have HE1 : Hid _ := he
        clear he
        have c0 : wr.cell? ⟨g, n + p, none⟩ = some (.int .u8 92) := by have h := spot 0 (by simp); rw [Nat.add_zero] at h; rw [cellAt.out p (by simp at room; omega), h]; rfl
        have c1 : wr.cell? ⟨g, n + (p + 1), none⟩ = some (.int .u8 117) := by have h := spot 1 (by simp); rw [cellAt.out (p + 1) (by simp at room; omega), h]; rfl
        have c4 : Hid (∀ j, j < 4 → wr.cell? ⟨g, n + (p + 2) + j, none⟩ = some (.int .u8 ([48, 48, x, y].getD j 0))) := by
          intro j hj
          have h := spot (2 + j) (by simp; omega)
          rw [Nat.add_assoc, show p + 2 + j = p + (2 + j) from by omega, cellAt.out (p + (2 + j)) (by simp at room; omega), h]
          match j, hj with
          | 0, _ => rfl
          | 1, _ => rfl
          | 2, _ => rfl
          | 3, _ => rfl
        have i0 : (p : Int) + 6 < (m : Int) := by simp at room; omega
        have i1 : p + 6 < m := by omega
        have HX : Hid _ := hx
        have hbb : Hid (∀ c ∈ [48, 48, x, y], 0 ≤ c ∧ c ≤ 255) := by show ∀ c ∈ [48, 48, x, y], 0 ≤ c ∧ c ≤ 255; simp; omega
        clear spot room hx x0 x1 y0 y1
        go_wp2_with fail
        refine (zz4 g (n + (p + 2)) _ [48, 48, x, y] rfl _ c4.out hbb.out).mono ?_
        rw [HX.out]
        rintro e w' ⟨rfl, rfl⟩
        go_wp2_with (at_builtin; refine wpList_bytes rfl (.tmp 119) (.tmp 122) rfl _ _ rfl _ _ _ hBr [c] 1 rfl rfl _ rfl (by omega) ?_; intro v1 w1 hB1)
        go_roundw
        case rel => exact step.out _ _ 6 _ (by rw [HE1.out]; rfl) (by omega) hB1
        case measure => simp [intOf]; omega
    · obtain rfl : k = l.length := by omega
      obtain ⟨q1, q2⟩ := HE.out
      rw [← hp] at q1 q2
      have c0 : wr.cell? ⟨g, n + p, none⟩ = some (.int .u8 34) := by rw [cellAt.out p (by omega), q1]
      have i0 : (p : Int) < (m : Int) := by omega
      have HQ : Hid _ := q2
      rw [List.take_length] at hBr
      clear q1 q2 hp hkl
      go_wp2
      go_ret3
      exact ⟨_, by rw [HQ.out]; simp, hBr⟩
end Go.Proofs.Qxb6604270a
