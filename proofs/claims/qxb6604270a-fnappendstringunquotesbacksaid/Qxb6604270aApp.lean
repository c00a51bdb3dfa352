/-
  jsontext.AppendString (function 10): onto a slice that the caller owns it appends a quote, each byte through the escape table, a quote.
-/
import Derived.Test.Qxb6604270aOwn
import Derived.Test.Qxb6604270aPlain
import Derived.Deep.RegionLaw
namespace Go.Proofs.Qxb6604270a
open Go.RowKit

theorem bytesI_getElem (s : ByteArray) (k : Nat) (h : k < s.size) (h' : k < (bytesI s).length) : (bytesI s)[k] = (s[k].toNat : Int) := by
  simp [bytesI]; rfl

theorem bytesI_extract (s : ByteArray) (a b : Nat) : bytesI (s.extract a b) = ((bytesI s).take b).drop a := by
  simp [bytesI, ← List.map_take, ← List.map_drop, List.extract_eq_take_drop]
  rw [List.drop_take]

theorem bytesI_append (s t : ByteArray) : bytesI (s ++ t) = bytesI s ++ bytesI t := by
  simp [bytesI]

theorem rel_plain {s : ByteArray} {bs D : List Int} {run k : Nat} {W wr : World} {r : Option Nat} {v : Value} (hR : Run (bytesI s) D run k) (hlt : k < s.size) (h1 : (32 : Int) ≤ (s[k].toNat : Int)) (h2 : (s[k].toNat : Int) ≠ 34) (h3 : (s[k].toNat : Int) ≠ 92)
    (hB : Buf W r v (bs ++ [34] ++ D) wr) :
    ∃ (k' run' : Nat) (D' : List Int), Value.int .i64 ((k : Int) + 1) = .int .i64 k' ∧ Value.int .i64 (run : Int) = .int .i64 run' ∧ Run (bytesI s) D' run' k' ∧ Buf W r v (bs ++ [34] ++ D') wr := by
  have hk : k < (bytesI s).length := by rw [bytesI_length]; exact hlt
  refine ⟨k + 1, run, D, by go_num, rfl, hR.plain hk ?_, hB⟩
  rw [bytesI_getElem s k hlt hk]
  exact esc_plain h1 h2 h3

theorem rel_esc {s : ByteArray} {bs D E : List Int} {run k : Nat} {W wr : World} {r : Option Nat} {v : Value} (hR : Run (bytesI s) D run k) (hlt : k < s.size) (hE : esc (s[k].toNat : Int) = E)
    (hB : Buf W r v (bs ++ [34] ++ D ++ bytesI (s.extract run k) ++ E) wr) :
    ∃ (k' run' : Nat) (D' : List Int), Value.int .i64 ((k : Int) + 1) = .int .i64 k' ∧ Value.int .i64 ((k : Int) + 1) = .int .i64 run' ∧ Run (bytesI s) D' run' k' ∧ Buf W r v (bs ++ [34] ++ D') wr := by
  have hk : k < (bytesI s).length := by rw [bytesI_length]; exact hlt
  have h := hR.esc hk
  rw [bytesI_getElem s k hlt hk, hE, ← bytesI_extract] at h
  exact ⟨k + 1, k + 1, _, by go_num, by go_num, h, by simpa [List.append_assoc] using hB⟩

theorem rel_done {s : ByteArray} {bs D : List Int} {run k : Nat} {W wr : World} {r : Option Nat} {v : Value} (hR : Run (bytesI s) D run k) (hk : ¬ k < s.size)
    (hB : Buf W r v (bs ++ [34] ++ D ++ bytesI (s.extract run s.size) ++ [34]) wr) : Buf W r v (bs ++ [34] ++ escs (bytesI s) ++ [34]) wr := by
  have h1 := hR.2.1
  rw [bytesI_length] at h1
  have h := hR.done (by rw [bytesI_length]; omega)
  rw [← h]
  rw [bytesI_extract] at hB
  have e : (bytesI s).take s.size = bytesI s := by rw [← bytesI_length]; simp
  rw [e] at hB
  simpa [List.append_assoc] using hB

/-- 'append(buf, c1, .., cm)' inside a region that draws its order. -/
theorem step_bytes {ops : Array Oper} {o : Oper} {a : Act} {K : Act → World → Prop} {Q : Exit → Act → World → Prop} {E : Prop} (hgd : o.guard = none) (s x : Operand)
    (ho : o.op = .call { callee := .builtin .append, args := #[s, x], argTypes := #[22, 22] })
    (v : Value) (bs : List Int) (hs : a.eval s = v) (W0 : World) (row0 : Option Nat) (w0 : World) (hb : Buf W0 row0 v bs w0) (news : List Int) (m : Nat) (hm : news.length = m)
    (hx : a.eval x = .slice (some ⟨w0.heap.size, 0, none⟩) m m) (cs : Array Value) (hcs : cs = (cells news).toArray) (hlen : bs.length + m ≤ 140737488355328)
    (h : ∀ v' w', Buf W0 row0 v' (bs ++ news) w' → K (a.put o.dst v') w') : if Region.wanted o (yielded ops a.tmps) = true then Oper.wp Try.prog o a (w0.alloc (.cells cs 5)).drew K Q else E := by
  have hw : Region.wanted o (yielded ops a.tmps) = true := by simp [Region.wanted, hgd]
  rw [if_pos hw]
  obtain ⟨i0, hi, hz0, hz1, hz2⟩ := info_parts Try.info5
  subst hcs
  have hb' := (hb.alloc (.cells (cells news).toArray 5)).drew
  obtain ⟨v', w', hr, h2, h3, _, h5⟩ := run_append_own_at (P := Try.prog) _ 0 22 o.type 5 i0 (.int .u8 0) 1 1 Try.underlying22 hi hz0 hz1 hz2 rfl (by decide) v bs.length (cells bs) hb'.1 ⟨w0.heap.size, 0, none⟩ m m (cells news) (by rw [cells_length, hm, Nat.mul_one])
    (by
      intro j u hj
      have hadd : (⟨w0.heap.size, 0, none⟩ : Addr).add j = ⟨w0.heap.size, j, none⟩ := by unfold Addr.add; split <;> simp_all
      rw [hadd, show (w0.alloc (.cells (cells news).toArray 5)).drew.cell? ⟨w0.heap.size, j, none⟩ = (w0.alloc (.cells (cells news).toArray 5)).cell? ⟨w0.heap.size, j, none⟩ from rfl, cell_of_row _ _ j _ 5 (0, 0) (heap_alloc_new w0 _)]
      simpa using hj)
    (by
      intro u hu
      obtain ⟨_, _, rfl⟩ := List.mem_map.1 hu
      rfl) (by unfold maxLen; omega) (by omega) (Nat.zero_le _)
  unfold Oper.wp execOp
  simp only [ho, resolve, invoke, builtin, Sem.run_bind, Sem.run_pure, Result.andThen_ok, List.map_toArray, List.map_cons, List.map_nil, hs, hx, hr]
  exact h _ _ (hb'.step hm h2 h3 h5)

theorem and15_u8 (c : Nat) (h : c < 256) : bits BinOp.and IntKind.u8 (c : Int) 15 = ((c % 16 : Nat) : Int) := by
  have := u8_and_nat c 15 h (by decide)
  rw [nat_mask4] at this
  exact this

theorem hexDigits_at : ∀ d : Fin 16, ((#[48, 49, 50, 51, 52, 53, 54, 55, 56, 57, 97, 98, 99, 100, 101, 102] : Array UInt8)[d.val].toNat : Int) = hexL d.val := by decide

def hexDigits : ByteArray := ⟨#[48, 49, 50, 51, 52, 53, 54, 55, 56, 57, 97, 98, 99, 100, 101, 102]⟩

theorem hexDigits_get (d : Nat) (h : d < 16) : ((hexDigits[d]'h).toNat : Int) = hexL d := hexDigits_at ⟨d, h⟩

end Go.Proofs.Qxb6604270a
