/-
  clear of part of a row of several cells an element; the live slots of a row.
-/
import Derived.Test.YbulkomiDelG
namespace Go.Proofs.Ybulkomi
open Go.RowKit

theorem zero_one {z : Array Value} {k : Nat} (hz : ∀ u ∈ z, u.oneCell' = true) (hs : 0 < z.size) : ∀ u ∈ (Builtin.zeroCells z k).toList, u.oneCell' = true := by
  intro u hu
  simp only [Builtin.zeroCells, Array.toList_map, List.mem_map] at hu
  obtain ⟨i, _, rfl⟩ := hu
  have hlt : i % z.size < z.size := Nat.mod_lt _ hs
  rw [getElem!_pos z (i % z.size) hlt]
  exact hz _ (Array.getElem_mem hlt)
theorem zero_len (z : Array Value) (k : Nat) : (Builtin.zeroCells z k).toList.length = k * z.size := by simp [Builtin.zeroCells]

theorem wpList_clear_row {P : Program} (w : World) {ops : Array Oper} {rest : List Oper} {o : Oper} {a : Act} {Q : Exit → Act → World → Prop}
    (hg : o.guard = none) (s : Operand) (t : TypeId) (hop : o.op = Op.call { callee := Callee.builtin Builtin.clear, args := #[s], argTypes := #[t] }) {e : TypeId} {z : Value} {sz bytes : Nat} (ht : P.underlying t = some (.slice e)) (hinfo : (P.info? e).map (fun i => (i.zero, i.size, i.bytes)) = some (some z, sz, bytes)) (hzs : z.cells.size = sz) (hsz : 0 < sz) (hz1 : ∀ u ∈ z.cells, u.oneCell' = true)
    {g off k c : Nat} (hs : a.eval s = .slice (some ⟨g, off, none⟩) k c) (hk : 0 < k) {cur : Array Value} (hb : Blk w g cur e) (hfit : off + k * sz ≤ cur.size)
    (hK : ∀ cur', cur'.size = cur.size → cur'.toList.take off = cur.toList.take off → wpList P ops Q rest (a.put o.dst (.tuple #[])) (w.setRow g cur')) : wpList P ops Q (o :: rest) a w := by
  refine wpList_plain hg fun K hK' => ?_
  obtain ⟨i, hi, hz, _, _⟩ := info_parts hinfo
  have hzl := zero_len z.cells k
  rw [hzs] at hzl
  have hst := run_storeCells_at P g off e (Builtin.zeroCells z.cells k).toList 0 cur w hb (by omega) (zero_one hz1 (by omega))
  obtain ⟨k', rfl⟩ : ∃ k', k = k' + 1 := ⟨k - 1, by omega⟩
  have hr : (Builtin.clear_ #[t] o.type #[.slice (some ⟨g, off, none⟩) (k' + 1) c]).run P w = .ok (.tuple #[]) (w.setRow g (cur.toList.take off ++ (Builtin.zeroCells z.cells (k' + 1)).toList ++ cur.toList.drop (off + (Builtin.zeroCells z.cells (k' + 1)).toList.length)).toArray) := by
    simp only [Nat.add_zero] at hst
    have hzc : (zeroValue e).run P w = .ok z w := by simp [zeroValue, typeInfo, hi, hz]
    simp only [Builtin.clear_, List.getElem?_toArray, List.getElem?_cons_zero, Sem.run_bind, run_underlying ht, Result.andThen_ok, hzc]
    rw [hst]
    rfl
  unfold Oper.wp
  generalize hzz : (Builtin.zeroCells z.cells (k' + 1)).toList = zs at *
  simp [execOp, hop, resolve, invoke, builtin, hs, hr, Result.andThen]
  have hlo : (cur.toList.take off).length = off := by simp; omega
  refine hK' _ _ (hK _ ?_ ?_)
  · simp; omega
  · show (List.take off cur.toList ++ _).take off = _
    rw [List.take_append_of_le_length (by omega), List.take_of_length_le (by omega)]

end Go.Proofs.Ybulkomi
