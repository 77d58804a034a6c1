/-
  task.Events: the events' table, Fired, prune.
-/
import Derived.Test.YbulkonkEv0
namespace Go.Proofs.Ybulkonk
open Go.RowKit Go.MuLone

/-- A method called on an interface value whose dynamic type is known. -/
theorem wpList_invoke {P : Program} (w : World) {ops : Array Oper} {rest : List Oper} {o : Oper} {a : Act} {Q : Exit → Act → World → Prop}
    (hg : o.guard = none) (recv : Operand) (name : String) (args : Array Operand) (ats : Array TypeId) (hop : o.op = Op.call { callee := Callee.invoke recv name, args := args, argTypes := ats })
    (rv : Value) (hv : a.eval recv = rv) (vs : Array Value) (hvs : args.map a.eval = vs) (f : FuncId) (fs : Array Value)
    (hrun : (callMethod rv name vs).run P w = .ok (.enter f fs) w)
    (h : Calls P f fs w fun
      | .returned v, w'' => wpList P ops Q rest (a.put o.dst v) w''
      | .panicked chain, w'' => Q (.panic chain) a w''
      | .outgrown, _ => LetsOut Q) :
    wpList P ops Q (o :: rest) a w := by
  subst hv hvs
  refine wpList_plain hg fun K hK' => ?_
  have e : (execOp a.eval o).run P w = .ok (.enter f fs) w := by
    have ex : (#[a.eval recv] ++ Array.map a.eval args).extract 1 (#[a.eval recv] ++ Array.map a.eval args).size = args.map a.eval := by
      rw [Array.extract_append]; simp
    have e0 : (#[a.eval recv] ++ Array.map a.eval args)[0]? = some (a.eval recv) := by
      rw [Array.getElem?_append_left (by simp)]; simp
    have e1 : execOp a.eval o = (do let d ← resolve a.eval { callee := Callee.invoke recv name, args := args, argTypes := ats } o.type; invoke d.target d.args) := by
      unfold execOp; rw [hop]
    have e2 : resolve a.eval { callee := Callee.invoke recv name, args := args, argTypes := ats } o.type = pure { target := .fn (.method name) #[], args := #[a.eval recv] ++ args.map a.eval } := rfl
    have e3 : invoke (.fn (.method name) #[]) (#[a.eval recv] ++ args.map a.eval) = callMethod (a.eval recv) name (args.map a.eval) := by
      show (match (#[a.eval recv] ++ args.map a.eval)[0]? with
        | some r => callMethod r name ((#[a.eval recv] ++ args.map a.eval).extract 1 (#[a.eval recv] ++ args.map a.eval).size)
        | _ => stuck _) = _
      rw [e0]
      exact congrArg (callMethod (a.eval recv) name) ex
    rw [e1, e2]
    show (invoke (.fn (.method name) #[]) (#[a.eval recv] ++ args.map a.eval)).run P w = _
    rw [e3]; exact hrun
  unfold Oper.wp
  rw [e, Oper.upon_enter]
  refine h.mono ?_
  intro en w'' hen
  cases en with
  | returned v => exact hK' _ _ hen
  | panicked c => exact hen
  | outgrown => exact hen




/-- Of the blocks that were there only those in S have turned. -/
structure Fr (S : Nat → Prop) (w w' : World) : Prop where
  os : w'.os = w.os
  tape : w'.tape = w.tape
  output : w'.output = w.output
  size : w.heap.size ≤ w'.heap.size
  block : ∀ k, k < w.heap.size → ¬ S k → w'.heap[k]? = w.heap[k]?

theorem Fr.refl (S : Nat → Prop) (w : World) : Fr S w w := ⟨rfl, rfl, rfl, Nat.le_refl _, fun _ _ _ => rfl⟩
theorem Fr.trans {S : Nat → Prop} {a b c : World} (h : Fr S a b) (k : Fr S b c) : Fr S a c := ⟨k.os.trans h.os, k.tape.trans h.tape, k.output.trans h.output, Nat.le_trans h.size k.size, fun i hi hs => (k.block i (Nat.lt_of_lt_of_le hi h.size) hs).trans (h.block i hi hs)⟩
/-- the second step may touch new blocks too -/
theorem Fr.trans' {S T : Nat → Prop} {a b c : World} (h : Fr S a b) (k : Fr T b c) (hT : ∀ i, i < a.heap.size → T i → S i) : Fr S a c := ⟨k.os.trans h.os, k.tape.trans h.tape, k.output.trans h.output, Nat.le_trans h.size k.size, fun i hi hs => (k.block i (Nat.lt_of_lt_of_le hi h.size) (fun t => hs (hT i hi t))).trans (h.block i hi hs)⟩
theorem Fr.mono {S T : Nat → Prop} {a b : World} (h : Fr S a b) (hs : ∀ k, S k → T k) : Fr T a b := ⟨h.os, h.tape, h.output, h.size, fun k hk ht => h.block k hk (fun s => ht (hs k s))⟩
theorem Fr.alloc {S : Nat → Prop} {a b : World} (h : Fr S a b) (o : Obj) : Fr S a (b.alloc o) := ⟨h.os, h.tape, h.output, by have := h.size; simp; omega, fun k hk hs => by rw [Below.heap_alloc _ _ _ (by have := h.size; omega)]; exact h.block k hk hs⟩
theorem Fr.drew {S : Nat → Prop} {a b : World} (h : Fr S a b) : Fr S a b.drew := ⟨h.os, h.tape, h.output, h.size, h.block⟩
theorem Fr.drewN {S : Nat → Prop} {a b : World} (h : Fr S a b) (n : Nat) : Fr S a (b.drewN n) := ⟨h.os, h.tape, h.output, h.size, h.block⟩
theorem Fr.setCell {S : Nat → Prop} {a b : World} (h : Fr S a b) {p : Addr} (hp : a.heap.size ≤ p.block ∨ S p.block) (v : Value) : Fr S a (b.setCell p v) := ⟨h.os, h.tape, h.output, by simpa using h.size, fun k hk hs => by
  have hne : k ≠ p.block := fun e => hp.elim (fun h0 => by omega) (fun h0 => hs (by rw [e]; exact h0))
  rw [Below.heap_setCell _ _ _ _ (by first | exact hne | exact hne.symm)]; exact h.block k hk hs⟩
theorem Fr.setRow {S : Nat → Prop} {a b : World} (h : Fr S a b) {g : Nat} (hp : a.heap.size ≤ g ∨ S g) (c : Array Value) : Fr S a (b.setRow g c) := ⟨h.os, h.tape, h.output, by simpa using h.size, fun k hk hs => by
  have hne : k ≠ g := fun e => hp.elim (fun h0 => by omega) (fun h0 => hs (by rw [e]; exact h0))
  rw [setRow_other _ _ _ _ (by first | exact hne | exact hne.symm)]; exact h.block k hk hs⟩
theorem Fr.blk {S : Nat → Prop} {w w' : World} (h : Fr S w w') {k : Nat} {c : Array Value} {t : TypeId} (hb : Blk w k c t) (hk : ¬ S k) : Blk w' k c t := by
  have := hb.lt
  unfold Blk at *; rw [h.block k this hk]; exact hb
theorem Fr.below {S : Nat → Prop} {w w' : World} (h : Fr S w w') {B : Nat} (hB : B ≤ w.heap.size) (hS : ∀ k, S k → B ≤ k) : Below B w w' := ⟨h.os, h.tape, h.output, h.size, fun k hk => h.block k (by omega) (fun s => by have := hS k s; omega)⟩
theorem Fr.grown {S : Nat → Prop} {a w w' : World} {row : Option Nat} (h : Fr S a w) (hg : w.grownBy w' row) (hr : ∀ k, row = some k → a.heap.size ≤ k ∨ S k) : Fr S a w' := ⟨hg.os.trans h.os, hg.tape.trans h.tape, hg.output.trans h.output, Nat.le_trans h.size hg.size, fun k hk hs => (hg.block k (Nat.lt_of_lt_of_le hk h.size) (fun e => (hr k e.symm).elim (fun h0 => by omega) (fun h0 => hs h0))).trans (h.block k hk hs)⟩
theorem Fr.own {S : Nat → Prop} {w w' : World} (h : Fr S w w') {lo : Nat} {e : TypeId} {v : Value} {n : Nat} {xs : List Value} (ho : w.ownsRow lo e 1 v n xs) (hne : ∀ k, v.ownBlock = some k → ¬ S k) : w'.ownsRow lo e 1 v n xs := by
  refine ⟨ho.1, ?_⟩
  rcases ho.2 with h0 | ⟨g, cap, cur, rfl, hg, hh, r⟩
  · exact Or.inl h0
  · exact Or.inr ⟨g, cap, cur, rfl, hg, (h.blk (k := g) (t := e) hh (hne g rfl)), r⟩

/-- An event as an interface value; its six cells. -/
def evv (eb : Nat → Nat) (x : Nat) : Value := .iface 55 (.pointer (some ⟨eb x, 0, none⟩))
def evC (x : Nat) (f o : Bool) (lg : Nat) (sp inn : Value) : Array Value := #[.int .i64 x, .bool f, .bool o, .pointer (some ⟨lg, 0, none⟩), sp, inn]

theorem info85 : (Yba.prog.info? 85).map (fun i => (i.zero, i.size, i.bytes)) = some (some .nilIface, 1, 16) := by kernel_rfl
theorem info3 : (Yba.prog.info? 3).map (fun i => (i.zero, i.size, i.bytes)) = some (some (.int .i64 0), 1, 8) := by kernel_rfl

set_option maxHeartbeats 400000 in
theorem fired_any (e : Nat) (c : Array Value) (f : Bool) (w : World) (h : Blk w e c 59) (hc : c[1]? = some (.bool f)) : Calls Yba.prog 58 #[.pointer (some ⟨e, 0, none⟩)] w fun r w' => r = .returned (.bool f) ∧ w' = w := by
  have h1 := (h.cell 1).trans hc
  go_enter Yba.func58, Yba.ntmps58
  go_wp2
  go_ret
  exact ⟨rfl, rfl⟩

/-- Those of the first i that have not fired. -/
def fl (F : Nat → Bool) (E : List Nat) (i : Nat) : List Nat := (E.take i).filter (fun x => !F x)
theorem fl_le (F : Nat → Bool) (E : List Nat) (i : Nat) : (fl F E i).length ≤ i := by
  unfold fl
  have h1 := List.length_filter_le (fun x => !F x) (E.take i)
  have h2 := List.length_take_le i E
  omega
theorem fl_succ (F : Nat → Bool) (E : List Nat) (i : Nat) (h : i < E.length) : fl F E (i + 1) = fl F E i ++ (if F E[i] then [] else [E[i]]) := by
  unfold fl
  rw [List.take_succ_eq_append_getElem h, List.filter_append]
  cases hf : F E[i] <;> simp [hf]
theorem fl_all (F : Nat → Bool) (E : List Nat) : fl F E E.length = E.filter (fun x => !F x) := by simp [fl]

/-- In the loop of prune. -/
structure Pr (F : Nat → Bool) (E : List Nat) (eb : Nat → Nat) (w : World) (g cap i : Nat) (wr : World) : Prop where
  row : ∃ cur, Blk wr g cur 85 ∧ cur.size = cap ∧ cur.toList.take (fl F E i).length = (fl F E i).map (evv eb) ∧ ∀ j, i ≤ j → (h : j < E.length) → cur[j]? = some (evv eb E[j])
  fr : Fr (fun k => k = g) w wr

theorem pr_skip {F : Nat → Bool} {E : List Nat} {eb : Nat → Nat} {w : World} {g cap i : Nat} {wr : World} (h : Pr F E eb w g cap i wr) (hi : i < E.length) (hF : F E[i] = true) : Pr F E eb w g cap (i + 1) wr := by
  obtain ⟨cur, h1, h2, h3, h4⟩ := h.row
  have e := fl_succ F E i hi
  rw [hF] at e
  simp at e
  exact ⟨⟨cur, h1, h2, by rw [e]; exact h3, fun j hj hlt => h4 j (by omega) hlt⟩, h.fr⟩

theorem pr_keep {F : Nat → Bool} {E : List Nat} {eb : Nat → Nat} {w : World} {g cap i : Nat} {wr : World} (h : Pr F E eb w g cap i wr) (hi : i < E.length) (hF : F E[i] = false) (hcap : E.length ≤ cap) {cur : Array Value} (hc : Blk wr g cur 85) (o : Obj) :
    Pr F E eb w g cap (i + 1) ((wr.alloc o).setRow g (cur.setIfInBounds (fl F E i).length (evv eb E[i]))) ∧ (fl F E (i + 1)).length = (fl F E i).length + 1 := by
  obtain ⟨cur', h1, h2, h3, h4⟩ := h.row
  have : cur' = cur := by
    unfold Blk at h1 hc; rw [hc] at h1; simpa using h1.symm
  subst this
  have e := fl_succ F E i hi
  rw [hF] at e
  simp at e
  have hle := fl_le F E i
  have hl : (fl F E (i + 1)).length = (fl F E i).length + 1 := by rw [e]; simp
  refine ⟨⟨⟨_, setRow_blk (hc.alloc o), by simpa using h2, ?_, fun j hj hlt => ?_⟩, (h.fr.alloc o).setRow (Or.inr rfl) _⟩, hl⟩
  · rw [hl, e, List.map_append, Array.toList_setIfInBounds, List.take_add_one, List.take_set_of_le (Nat.le_refl _), h3, List.getElem?_set_self (by simpa [h2] using by omega)]
    simp
  · rw [Array.getElem?_setIfInBounds_ne (by omega)]
    exact h4 j (by omega) hlt

end Go.Proofs.Ybulkonk
