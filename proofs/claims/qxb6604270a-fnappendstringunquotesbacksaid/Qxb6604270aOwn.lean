/-
  A slice of bytes that the call owns, carried from append to append: which bytes it holds; since the world W0 only its first block and new blocks have turned.
-/
import Derived.Test.Qxb6604270aRows
import Derived.WalkKit
import Derived.WalkSpells
import Derived.WalkLawsBesides
import Derived.Lib.AppendStr
import Derived.Maps.AppendAt
namespace Go.Proofs.Qxb6604270a
open Go.RowKit

theorem Try.info5 : (Try.prog.info? 5).map (fun i => (i.zero, i.size, i.bytes)) = some (some (.int .u8 0), 1, 1) := by kernel_rfl

def cells (bs : List Int) : List Value := bs.map (Value.int .u8)

theorem cells_length (bs : List Int) : (cells bs).length = bs.length := by simp [cells]
theorem cells_append (xs bs : List Int) : cells (xs ++ bs) = cells xs ++ cells bs := by simp [cells]

/-- A string's bytes as numbers. -/
def bytesI (s : ByteArray) : List Int := s.data.toList.map fun b => (b.toNat : Int)

theorem bytesI_length (s : ByteArray) : (bytesI s).length = s.size := by
  rw [bytesI, List.length_map, Array.length_toList]; rfl

theorem cells_bytesI (s : ByteArray) : Lib.strCells s = cells (bytesI s) := by
  simp [Lib.strCells, cells, bytesI]

def Buf (W0 : World) (row0 : Option Nat) (v : Value) (bs : List Int) (w : World) : Prop :=
  w.ownsRow 0 5 1 v bs.length (cells bs) ∧ W0.grownBy w row0 ∧ (∀ k, v.ownBlock = some k → some k = row0 ∨ W0.heap.size ≤ k)

theorem grownBy_trans {a b c : World} {r s : Option Nat} (h : a.grownBy b r) (k : b.grownBy c s) (hs : ∀ x, s = some x → some x = r ∨ a.heap.size ≤ x) : a.grownBy c r :=
  ⟨k.os.trans h.os, k.tape.trans h.tape, k.output.trans h.output, Nat.le_trans h.size k.size, fun i hi hr => by
    rw [k.block i (Nat.lt_of_lt_of_le hi h.size) (fun e => by rcases hs i e.symm with h1 | h1 <;> first | exact hr h1 | omega)]
    exact h.block i hi hr⟩

theorem Buf.start {w : World} {v : Value} {bs : List Int} (h : w.ownsRow 0 5 1 v bs.length (cells bs)) : Buf w v.ownBlock v bs w :=
  ⟨h, World.grownBy.refl _ _, fun _ hk => .inl hk.symm⟩

theorem Buf.alloc {W0 w : World} {row0 : Option Nat} {v : Value} {bs : List Int} (h : Buf W0 row0 v bs w) (o : Obj) : Buf W0 row0 v bs (w.alloc o) :=
  ⟨h.1.alloc o, grownBy_trans h.2.1 (World.grownBy_alloc w o none) (fun _ e => by cases e), h.2.2⟩

theorem Buf.drew {W0 w : World} {row0 : Option Nat} {v : Value} {bs : List Int} (h : Buf W0 row0 v bs w) : Buf W0 row0 v bs w.drew :=
  ⟨h.1, ⟨h.2.1.os, h.2.1.tape, h.2.1.output, h.2.1.size, h.2.1.block⟩, h.2.2⟩

/-- One append's step. -/
theorem Buf.step {W0 w w' : World} {row0 : Option Nat} {v v' : Value} {bs news : List Int} {m : Nat} (h : Buf W0 row0 v bs w) (hm : news.length = m) (ho : w'.ownsRow 0 5 1 v' (bs.length + m) (cells bs ++ cells news)) (hg : w.grownBy w' v.ownBlock)
    (hat : v'.ownBlock = v.ownBlock ∨ v'.ownBlock = some w.heap.size) : Buf W0 row0 v' (bs ++ news) w' := by
  refine ⟨?_, grownBy_trans h.2.1 hg h.2.2, ?_⟩
  · rw [cells_append, List.length_append, hm]; exact ho
  · intro k hk
    rcases hat with e | e
    · exact h.2.2 k (by rw [← e]; exact hk)
    · rw [e] at hk
      have := h.2.1.size
      cases hk
      exact .inr this

/-- 'append(buf, c1, .., cm)': the new bytes lie in the block that the statement has just laid. -/
theorem wpList_bytes {ops : Array Oper} {rest : List Oper} {o : Oper} {a : Act} {Q : Exit → Act → World → Prop} (hgd : o.guard = none) (s x : Operand)
    (ho : o.op = .call { callee := .builtin .append, args := #[s, x], argTypes := #[22, 22] })
    (v : Value) (bs : List Int) (hs : a.eval s = v) (W0 : World) (row0 : Option Nat) (w0 : World) (hb : Buf W0 row0 v bs w0) (news : List Int) (m : Nat) (hm : news.length = m)
    (hx : a.eval x = .slice (some ⟨w0.heap.size, 0, none⟩) m m) (cs : Array Value) (hcs : cs = (cells news).toArray) (hlen : bs.length + m ≤ 140737488355328)
    (h : ∀ v' w', Buf W0 row0 v' (bs ++ news) w' → wpList Try.prog ops Q rest (a.put o.dst v') w') : wpList Try.prog ops Q (o :: rest) a (w0.alloc (.cells cs 5)) := by
  obtain ⟨i0, hi, hz0, hz1, hz2⟩ := info_parts Try.info5
  have hb' := hb.alloc (.cells cs 5)
  subst hcs
  refine wpList_append_own_at _ hgd s x 22 ho 0 5 i0 (.int .u8 0) 1 1 Try.underlying22 hi hz0 hz1 hz2 rfl (by decide) v bs.length (cells bs) hs hb'.1 ⟨w0.heap.size, 0, none⟩ m m (cells news) hx (by rw [cells_length, hm, Nat.mul_one]) ?_ ?_ (by unfold maxLen; omega) (by omega) (Nat.zero_le _) ?_
  · intro j u hj
    have hadd : (⟨w0.heap.size, 0, none⟩ : Addr).add j = ⟨w0.heap.size, j, none⟩ := by unfold Addr.add; split <;> simp_all
    rw [hadd, cell_of_row _ _ j _ 5 (0, 0) (heap_alloc_new w0 _)]
    simpa using hj
  · intro u hu
    obtain ⟨_, _, rfl⟩ := List.mem_map.1 hu
    rfl
  · intro v' w' ho' hg _ hat
    exact h v' w' (hb'.step hm ho' hg hat)

/-- 'append(buf, s...)': a string's bytes: where the slice then lies. -/
theorem append_string_at (w : World) (ty : TypeId) (v : Value) (n : Nat) (xs : List Value) (hown : w.ownsRow 0 5 1 v n xs) (s : ByteArray) (hlen : n + s.size ≤ 140737488355328) :
    ∃ v' w', (Builtin.append_ #[22, 9] ty #[v, .string s]).run Try.prog w = .ok v' w' ∧ w'.ownsRow 0 5 1 v' (n + s.size) (xs ++ Lib.strCells s) ∧ w.grownBy w' v.ownBlock ∧ (v'.ownBlock = v.ownBlock ∨ v'.ownBlock = some w.heap.size) := by
  obtain ⟨i0, hi, hz0, hz1, hz2⟩ := info_parts Try.info5
  obtain ⟨v', w', hr, h2, h3, h4⟩ := Lib.run_append_own_string (P := Try.prog) w 0 22 9 ty 5 i0 Try.underlying22 Try.underlying9 hi hz0 hz1 hz2 v n xs hown s (by unfold maxLen; omega) hlen (Nat.zero_le _)
  refine ⟨v', w', hr, h2, h3, ?_⟩
  have hxl : xs.length = n := by simpa using hown.1
  rcases hown.2 with ⟨rfl, rfl⟩ | ⟨g, cap, cur, rfl, hbg, hg, hnc, hcm, hcs, htake⟩
  · by_cases hm : s.size = 0
    · left
      rw [h4.2 ⟨rfl, hm⟩]
    · right
      have hq := run_append_nil_string (P := Try.prog) w 22 9 ty 5 i0 (.int .u8 0) Try.underlying22 Try.underlying9 hi hz0 s (by omega) (by omega) (by rw [hz2]; omega)
      rw [hq] at hr
      cases hr
      rfl
  · by_cases hroom : n + s.size ≤ cap
    · left
      have hcs' : cur.size = cap := by simpa using hcs
      have hq := Lib.run_append_room_string (P := Try.prog) w 22 9 ty 5 i0 Try.underlying22 Try.underlying9 hi hz1 g n cap cur hg s hroom (by omega)
      rw [hq] at hr
      cases hr
      rfl
    · right
      have holds : ∀ j u, xs[j]? = some u → w.cell? ((⟨g, 0, none⟩ : Addr).add j) = some u := hown.cells (g := g) rfl
      have hq := Lib.run_append_grow_string (P := Try.prog) w 22 9 ty 5 i0 (.int .u8 0) Try.underlying22 Try.underlying9 hi hz0 ⟨g, 0, none⟩ n cap xs (by rw [hz1]; simpa using hxl) holds s (by omega) (by omega) (by rw [hz2]; exact growslice_fits (by omega) (by omega))
      rw [hq] at hr
      cases hr
      rfl

theorem wpList_str {ops : Array Oper} {rest : List Oper} {o : Oper} {a : Act} {Q : Exit → Act → World → Prop} (hgd : o.guard = none) (s x : Operand)
    (ho : o.op = .call { callee := .builtin .append, args := #[s, x], argTypes := #[22, 9] })
    (v : Value) (bs : List Int) (hs : a.eval s = v) (W0 : World) (row0 : Option Nat) (w : World) (hb : Buf W0 row0 v bs w) (t : ByteArray) (hx : a.eval x = .string t) (hlen : bs.length + t.size ≤ 140737488355328)
    (h : ∀ v' w', Buf W0 row0 v' (bs ++ bytesI t) w' → wpList Try.prog ops Q rest (a.put o.dst v') w') : wpList Try.prog ops Q (o :: rest) a w := by
  refine wpList_plain hgd fun K hK => ?_
  obtain ⟨v', w', hr, h2, h3, h4⟩ := append_string_at w o.type v bs.length (cells bs) hb.1 t hlen
  rw [cells_bytesI] at h2
  unfold Oper.wp execOp
  simp only [ho, resolve, invoke, builtin, Sem.run_bind, Sem.run_pure, Result.andThen_ok, List.map_toArray, List.map_cons, List.map_nil, hs, hx, hr]
  exact hK _ _ (h v' w' (hb.step (bytesI_length t) h2 h3 h4))

end Go.Proofs.Qxb6604270a
