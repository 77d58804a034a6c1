/-
  Laws for task.Events: append in place told exactly; append of several; clear; frames.
-/
import Derived.Test.YbulkonkDuring
namespace Go.Proofs.Ybulkonk
open Go.RowKit Go.MuLone

theorem set_list (cur : Array Value) (m : Nat) (y : Value) (hm : m < cur.size) : (cur.toList.take m ++ [y] ++ cur.toList.drop (m + 1)).toArray = cur.setIfInBounds m y := by
  apply Array.ext'
  simp only [Array.toList_setIfInBounds, List.append_assoc, List.singleton_append]
  exact (List.set_eq_take_append_cons_drop ..).trans (by rw [if_pos (by simpa using hm)]) |>.symm

/-- One element appended in place: the row's very cells. -/
theorem wpList_room1 {P : Program} (w : World) {ops : Array Oper} {rest : List Oper} {o : Oper} {a : Act} {Q : Exit → Act → World → Prop}
    (hg : o.guard = none) (s x : Operand) (t : TypeId) (hop : o.op = Op.call { callee := Callee.builtin Builtin.append, args := #[s, x], argTypes := #[t, t] })
    {e : TypeId} {z : Value} {bytes : Nat} (ht : P.underlying t = some (.slice e)) (hinfo : (P.info? e).map (fun i => (i.zero, i.size, i.bytes)) = some (some z, 1, bytes))
    {g m cap : Nat} {cur : Array Value} (hs : a.eval s = .slice (some ⟨g, 0, none⟩) m cap) (hb : Blk w g cur e) (hcur : cur.size = cap) (hm : m < cap) {ad : Addr} {c : Nat} (hx : a.eval x = .slice (some ad) 1 c) {y : Value} (hc : w.cell? ad = some y) (h1 : y.oneCell' = true)
    (hK : wpList P ops Q rest (a.put o.dst (.slice (some ⟨g, 0, none⟩) (m + 1) cap)) (w.setRow g (cur.setIfInBounds m y))) :
    wpList P ops Q (o :: rest) a w := by
  refine wpList_plain hg fun K hK' => ?_
  obtain ⟨i, hi, _, hsz, _⟩ := info_parts hinfo
  have hr := run_append_room (P := P) w t o.type e i ht hi g m cap cur hb ad 1 c [y] (by simp [hsz]) (by
    intro j u hu
    match j, hu with
    | 0, hu => simp at hu; subst hu; simpa [Addr.add] using hc) (by intro u hu; simp at hu; subst hu; exact h1) (by omega) (by simp [hsz]; omega)
  rw [hsz] at hr
  simp only [Nat.mul_one, List.length_singleton] at hr
  rw [set_list cur m y (by omega)] at hr
  unfold Oper.wp
  simp [execOp, hop, resolve, invoke, builtin, hs, hx, hr, Result.andThen]
  exact hK' _ _ hK

/-- What an append of several leaves (one cell an element). -/
structure AppN (lo : Nat) (e : TypeId) (w w' : World) (v v' : Value) (n m : Nat) (xs ys : List Value) : Prop where
  own : w'.ownsRow lo e 1 v' (n + m) (xs ++ ys)
  grown : w.grownBy w' v.ownBlock
  where_ : ∃ g cap, v' = .slice (some ⟨g, 0, none⟩) (n + m) cap ∧ (v.ownBlock = some g ∨ w.heap.size ≤ g)

theorem run_appendN {P : Program} (w : World) {t e : TypeId} (ty : TypeId) {z : Value} {bytes : Nat} (ht : P.underlying t = some (.slice e)) (hinfo : (P.info? e).map (fun i => (i.zero, i.size, i.bytes)) = some (some z, 1, bytes)) (hzs : z.cells.size = 1)
    {lo n m : Nat} {v : Value} {xs ys : List Value} (hown : w.ownsRow lo e 1 v n xs) (hlo : lo ≤ w.heap.size) (ad : Addr) (c : Nat) (hm : 0 < m) (hl : ys.length = m) (hnews : ∀ j u, ys[j]? = some u → w.cell? (ad.add j) = some u) (h1c : ∀ u ∈ ys, u.oneCell' = true) (hn : n + m ≤ maxLen) (hb : (n + m) * bytes ≤ 140737488355328) :
    ∃ v' w', (Builtin.append_ #[t, t] ty #[v, .slice (some ad) m c]).run P w = .ok v' w' ∧ AppN lo e w w' v v' n m xs ys := by
  obtain ⟨i, hi, hz, hs, hby⟩ := info_parts hinfo
  have hl' : ys.length = m * 1 := by omega
  rcases hown.2 with ⟨rfl, rfl⟩ | ⟨g, cap, cur, rfl, hg, hgg, hnc, hcm, hcs, htake⟩
  · have hx0 : xs = [] := List.eq_nil_of_length_eq_zero (by simpa using hown.1)
    subst hx0
    obtain ⟨v', w', hr, ho, hgr, hnil⟩ := run_append_own (P := P) w w.heap.size t ty e i z 1 bytes ht hi hz hs hby hzs (by omega) _ 0 [] (World.ownsRow_nil w w.heap.size e 1) ad m c ys hl' hnews h1c hn hb (Nat.le_refl _)
    refine ⟨v', w', hr, ⟨ownsRow_mono ho hlo, hgr, ?_⟩⟩
    rcases ho.2 with ⟨_, h0⟩ | ⟨g, cap, cur, hv, hg, _⟩
    · omega
    · exact ⟨g, cap, hv, Or.inr hg⟩
  · by_cases hroom : n + m ≤ cap
    · obtain ⟨w', hr, ho, hgr⟩ := run_append_fits (P := P) w lo t ty e i 1 ht hi hs g n cap xs hown ad m c ys hl' hnews h1c hroom
      exact ⟨_, w', hr, ⟨ho, hgr, ⟨g, cap, rfl, Or.inl rfl⟩⟩⟩
    · have holds := hown.cells (g := g) rfl
      obtain ⟨v', w', hr, ho, hgr⟩ := run_append_arg_grows (P := P) w t ty e i z 1 bytes ht hi hz hs hby hzs (by omega) ⟨g, 0, none⟩ n cap xs hown.1 holds ad m c ys hl' hnews (by omega) hn hb
      refine ⟨v', w', hr, ⟨ownsRow_mono ho hlo, ⟨hgr.os, hgr.tape, hgr.output, hgr.size, fun k hk _ => hgr.block k hk (by simp)⟩, ?_⟩⟩
      rcases ho.2 with ⟨_, h0⟩ | ⟨g', cap', cur', hv, hg', _⟩
      · omega
      · exact ⟨g', cap', hv, Or.inr hg'⟩

theorem wpList_appendN {P : Program} (w : World) {ops : Array Oper} {rest : List Oper} {o : Oper} {a : Act} {Q : Exit → Act → World → Prop}
    (hg : o.guard = none) (s x : Operand) (t : TypeId) (hop : o.op = Op.call { callee := Callee.builtin Builtin.append, args := #[s, x], argTypes := #[t, t] })
    {e : TypeId} {z : Value} {bytes : Nat} (ht : P.underlying t = some (.slice e)) (hinfo : (P.info? e).map (fun i => (i.zero, i.size, i.bytes)) = some (some z, 1, bytes)) (hzs : z.cells.size = 1)
    {lo n m : Nat} {v : Value} {xs ys : List Value} (hs : a.eval s = v) (hown : w.ownsRow lo e 1 v n xs) (hlo : lo ≤ w.heap.size) {ad : Addr} {c : Nat} (hx : a.eval x = .slice (some ad) m c) (hm : 0 < m) (hl : ys.length = m) (hnews : ∀ j u, ys[j]? = some u → w.cell? (ad.add j) = some u) (h1c : ∀ u ∈ ys, u.oneCell' = true) (hn : n + m ≤ maxLen) (hb : (n + m) * bytes ≤ 140737488355328)
    (hK : ∀ g cap w', AppN lo e w w' v (.slice (some ⟨g, 0, none⟩) (n + m) cap) n m xs ys → wpList P ops Q rest (a.put o.dst (.slice (some ⟨g, 0, none⟩) (n + m) cap)) w') :
    wpList P ops Q (o :: rest) a w := by
  refine wpList_plain hg fun K hK' => ?_
  obtain ⟨v', w', hr, hA⟩ := run_appendN (P := P) w o.type ht hinfo hzs hown hlo ad c hm hl hnews h1c hn hb
  unfold Oper.wp
  simp [execOp, hop, resolve, invoke, builtin, hs, hx, hr, Result.andThen]
  obtain ⟨g, cap, hv, hw⟩ := hA.where_
  subst hv
  exact hK' _ _ (hK g cap w' hA)

theorem AppN.blk {lo : Nat} {e : TypeId} {w w' : World} {v v' : Value} {n m : Nat} {xs ys : List Value} (h : AppN lo e w w' v v' n m xs ys) {k : Nat} {c : Array Value} {t : TypeId} (hb : Blk w k c t) (hk : v.ownBlock ≠ some k) : Blk w' k c t := by
  have := hb.lt
  unfold Blk at *
  rw [h.grown.block k this (Ne.symm hk)]; exact hb

/-- 'clear' of an empty slice. -/
theorem wpList_clear_none {P : Program} (w : World) {ops : Array Oper} {rest : List Oper} {o : Oper} {a : Act} {Q : Exit → Act → World → Prop}
    (hg : o.guard = none) (s : Operand) (t : TypeId) (hop : o.op = Op.call { callee := Callee.builtin Builtin.clear, args := #[s], argTypes := #[t] }) {e : TypeId} (ht : P.underlying t = some (.slice e))
    {ao : Option Addr} {c : Nat} (hs : a.eval s = .slice ao 0 c) (hK : wpList P ops Q rest (a.put o.dst (.tuple #[])) w) : wpList P ops Q (o :: rest) a w := by
  refine wpList_plain hg fun K hK' => ?_
  have hr : (Builtin.clear_ #[t] o.type #[.slice ao 0 c]).run P w = .ok (.tuple #[]) w := by
    cases ao <;> simp [Builtin.clear_, run_underlying ht]
  unfold Oper.wp
  simp [execOp, hop, resolve, invoke, builtin, hs, hr, Result.andThen]
  exact hK' _ _ hK

theorem zeroCells_nil (k : Nat) : (Builtin.zeroCells #[.nilIface] k).toList = List.replicate k Value.nilIface := by
  apply List.ext_getElem
  · simp [Builtin.zeroCells]
  · intro i h1 h2
    have : i % 1 = 0 := Nat.mod_one i
    simp [Builtin.zeroCells, this]

/-- 'clear' of the cells from m on. -/
theorem wpList_clear_row {P : Program} (w : World) {ops : Array Oper} {rest : List Oper} {o : Oper} {a : Act} {Q : Exit → Act → World → Prop}
    (hg : o.guard = none) (s : Operand) (t : TypeId) (hop : o.op = Op.call { callee := Callee.builtin Builtin.clear, args := #[s], argTypes := #[t] }) {e : TypeId} {bytes : Nat} (ht : P.underlying t = some (.slice e)) (hinfo : (P.info? e).map (fun i => (i.zero, i.size, i.bytes)) = some (some .nilIface, 1, bytes))
    {g m k c : Nat} (hs : a.eval s = .slice (some ⟨g, m, none⟩) k c) (hk : 0 < k) {cur : Array Value} (hb : Blk w g cur e) (hfit : m + k ≤ cur.size)
    (hK : ∀ cur', cur'.size = cur.size → cur'.toList.take m = cur.toList.take m → wpList P ops Q rest (a.put o.dst (.tuple #[])) (w.setRow g cur')) : wpList P ops Q (o :: rest) a w := by
  refine wpList_plain hg fun K hK' => ?_
  obtain ⟨i, hi, hz, hsz, _⟩ := info_parts hinfo
  have hst := run_storeCells_at P g m e (List.replicate k Value.nilIface) 0 cur w hb (by simp; omega) (by
    intro u hu
    rw [(List.mem_replicate.1 hu).2]
    rfl)
  obtain ⟨k', rfl⟩ : ∃ k', k = k' + 1 := ⟨k - 1, by omega⟩
  have hr : (Builtin.clear_ #[t] o.type #[.slice (some ⟨g, m, none⟩) (k' + 1) c]).run P w = .ok (.tuple #[]) (w.setRow g (cur.toList.take m ++ List.replicate (k' + 1) Value.nilIface ++ cur.toList.drop (m + (k' + 1))).toArray) := by
    simp only [Nat.add_zero, List.length_replicate] at hst
    have hzc : (zeroValue e).run P w = .ok .nilIface w := by simp [zeroValue, typeInfo, hi, hz]
    simp only [Builtin.clear_, List.getElem?_toArray, List.getElem?_cons_zero, Sem.run_bind, run_underlying ht, Result.andThen_ok, hzc, Value.cells, zeroCells_nil]
    rw [hst]
    rfl
  unfold Oper.wp
  simp [execOp, hop, resolve, invoke, builtin, hs, hr, Result.andThen]
  refine hK' _ _ (hK _ ?_ ?_)
  · simp; omega
  · have : (cur.toList.take m).length = m := by simp; omega
    show (List.take m cur.toList ++ _).take m = _
    rw [List.take_append_of_le_length (by omega), List.take_of_length_le (by omega)]

end Go.Proofs.Ybulkonk
