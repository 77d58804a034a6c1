/-
  errbag's small functions: zzs0751abuild, snapshot.
-/
import Derived.Test.YbulkonkApp
import Derived.Test.YbulkonkLocks
import Derived.Defers
import Derived.Laws.EntriesVeiled
namespace Go.Proofs.Ybulkonk
open Go.RowKit Go.MuLone

/-- The law's input: n numbers. -/
def Ks (w : World) (a0 : Option Addr) (n ab ao : Nat) (z : Nat → Int) : Prop :=
  ∀ i, i < n → a0 = some ⟨ab, ao, none⟩ ∧ ab < w.heap.size ∧ w.cell? ⟨ab, ao + i, none⟩ = some (.int .i8 (z i))

theorem Ks.below {w w' : World} {a0 : Option Addr} {n ab ao : Nat} {z : Nat → Int} (h : Ks w a0 n ab ao z) (hb : Below w.heap.size w w') : Ks w' a0 n ab ao z := fun i hi => by
  obtain ⟨h1, h2, h3⟩ := h i hi
  exact ⟨h1, Nat.lt_of_lt_of_le h2 hb.size, (hb.cell (p := ⟨ab, ao + i, none⟩) h2).trans h3⟩

/-- The errors made of them. -/
def er (z : Nat → Int) (i : Nat) : Value := .iface 42 (.int .i8 (z i))
def vals (z : Nat → Int) (n : Nat) : List Value := (List.range n).map (er z)
theorem vals_succ (z : Nat → Int) (n : Nat) : vals z (n + 1) = vals z n ++ [er z n] := by simp [vals, List.range_succ]
theorem vals_len (z : Nat → Int) (n : Nat) : (vals z n).length = n := by simp [vals]
theorem vals_at (z : Nat → Int) {n i : Nat} (h : i < n) : (vals z n)[i]? = some (er z i) := by simp [vals, h]
theorem vals_one (z : Nat → Int) (n : Nat) : ∀ u ∈ vals z n, u.oneCell' = true := by
  intro u hu
  simp [vals] at hu
  obtain ⟨_, _, rfl⟩ := hu
  rfl

theorem info28 : (Yba.prog.info? 28).map (fun i => (i.zero, i.size, i.bytes)) = some (some .nilIface, 1, 16) := by kernel_rfl

def nils (n : Nat) : Array Value := madeCells #[.nilIface] n
theorem nils_size (n : Nat) : (nils n).size = n := size_madeCells _ _

theorem make25 (l n : Nat) (hl : l ≤ n) (h : n ≤ 4096) (w : World) : (Instr.makeSlice 25 (.int .i64 l) (.int .i64 n)).run Yba.prog w = .ok (.slice (some ⟨w.heap.size, 0, none⟩) l n) (w.alloc (.cells (nils n) 28)) := by
  obtain ⟨i, hi, hz, hs, hb⟩ := info_parts info28
  have := run_make (P := Yba.prog) w 25 28 i _ Yba.underlying25 hi hz .i64 .i64 l n (by omega) (by omega) (by rw [hb]; omega) (by omega)
  rw [this, hs]
  simp [nils, Value.cells]

/-- An owned row, its block written out. -/
theorem own_blk {w : World} {lo : Nat} {e : TypeId} {g n cap : Nat} {xs : List Value} (h : w.ownsRow lo e 1 (.slice (some ⟨g, 0, none⟩) n cap) n xs) : ∃ cur, Blk w g cur e ∧ lo ≤ g ∧ n ≤ cap ∧ cur.size = cap ∧ cur.toList.take n = xs := by
  rcases h.2 with ⟨h0, _⟩ | ⟨g', cap', cur, hv, hg, hh, h1, _, h3, h4⟩
  · simp at h0
  · simp at hv
    obtain ⟨rfl, rfl⟩ := hv
    exact ⟨cur, hh, hg, h1, by simpa using h3, by simpa using h4⟩
theorem own_cell {w : World} {lo : Nat} {e : TypeId} {g n cap : Nat} {xs : List Value} (h : w.ownsRow lo e 1 (.slice (some ⟨g, 0, none⟩) n cap) n xs) {i : Nat} {u : Value} (hu : xs[i]? = some u) : w.cell? ⟨g, i, none⟩ = some u := by
  have := h.cells (g := g) rfl i u hu
  rwa [Addr.add_lit, Nat.zero_add] at this

/-- The bag as 'build' lays it. -/
def bagC (v : Value) : Array Value := #[.int .i32 0, .int .u32 0, v, .nilIface]

set_option maxHeartbeats 1000000 in
theorem build_any {a0 : Option Addr} {n cap ab ao : Nat} {z : Nat → Int} {w : World} (H : Ks w a0 n ab ao z) (hn : n ≤ 1024) :
    Calls Yba.prog 7 #[.slice a0 n cap] w fun e w' => ∃ b, e = .returned (.pointer (some ⟨b, 0, none⟩)) ∧ Blk w' b (bagC (.slice (some ⟨w.heap.size, 0, none⟩) n n)) 40 ∧
      w'.ownsRow w.heap.size 28 1 (.slice (some ⟨w.heap.size, 0, none⟩) n n) n (vals z n) ∧ w.heap.size < b ∧ Below w.heap.size w w' := by
  have hmk := make25 0 n (by omega) (by omega)
  simp only [Int.natCast_zero] at hmk
  go_enter Yba.func7, Yba.ntmps7
  go_wp2
  go_loopw [3, 11] (fun v i wr => ∃ k : Nat, k ≤ n ∧ i = .int .i64 k ∧ v = .slice (some ⟨w.heap.size, 0, none⟩) k n ∧ wr.ownsRow w.heap.size 28 1 (.slice (some ⟨w.heap.size, 0, none⟩) k n) k (vals z k) ∧ Below w.heap.size w wr) (fun _ i _ => n - (intOf i).toNat)
  case atStart => exact ⟨0, Nat.zero_le _, rfl, rfl, World.ownsRow_made _ _ _ (Nat.le_refl _) (by unfold maxLen; omega) (by simp [nils_size]), (Below.refl _ _).alloc (Nat.le_refl _) _⟩
  case round =>
    obtain ⟨k, hk, rfl, rfl, hown, hb⟩ := hrel
    have hsz : w.heap.size < wr.heap.size := (own_blk hown).choose_spec.1.lt
    clear hmk
    by_cases hlt : k < n
    · obtain ⟨rfl, hab, hc0⟩ := H k hlt
      have hc1 : wr.cell? ⟨ab, ao + k, none⟩ = some (.int .i8 (z k)) := (hb.cell (p := ⟨ab, ao + k, none⟩) hab).trans hc0
      obtain ⟨i, hi, hz, hs, hby⟩ := info_parts info28
      go_wp2_with (at_builtin; refine wpList_append_fits _ rfl _ _ 25 rfl w.heap.size 28 i 1 Yba.underlying25 hi hs w.heap.size k n (vals z k) rfl (hown.alloc _) ⟨wr.heap.size, 0, none⟩ 1 1 [er z k] rfl rfl ?c1 ?c2 ?c3 ?_)
      case c1 =>
        intro j u hj
        match j, hj with
        | 0, hj => simp at hj; subst hj; simp [Addr.add, go_sem, er]
      case c2 => intro u hu; simp at hu; subst hu; rfl
      case c3 => omega
      intro w1 hown1 hgr
      have hb1 : Below w.heap.size w w1 := (hb.alloc (by omega) _).grown hgr (by simp; omega) (by simp)
      rw [← vals_succ] at hown1
      clear hgr hown hb hc1 hc0
      go_wp2
      go_roundw
      case rel => first | exact ⟨k + 1, by omega, by go_num, rfl, hown1, hb1⟩ | ((repeat apply Exists.intro); exact ⟨⟨k + 1, by omega, by go_num, rfl, hown1, hb1⟩, rfl⟩)
      case measure => simp [intOf]; omega
    · have hkn : k = n := by omega
      subst hkn
      go_wp2
      go_ret
      refine ⟨_, rfl, Blk.new _ _ _ _ rfl, hown.alloc _, hsz, hb.alloc (by omega) _⟩


/-- A whole row copied over another of the same length. -/
theorem wpList_copy_whole {P : Program} (w : World) {ops : Array Oper} {rest : List Oper} {o : Oper} {a : Act} {Q : Exit → Act → World → Prop} (hgd : o.guard = none) (d s : Operand) (dT sT : TypeId)
    (ho : o.op = .call { callee := .builtin .copy, args := #[d, s], argTypes := #[dT, sT] }) (elem : TypeId) (hu : P.underlying dT = some (.slice elem)) (hsz : (P.info? elem).map (·.size) = some 1)
    {g g' n cap cap' : Nat} (hd : a.eval d = .slice (some ⟨g, 0, none⟩) n cap) (hs : a.eval s = .slice (some ⟨g', 0, none⟩) n cap')
    {cur : Array Value} {t : TypeId} (hg : Blk w g cur t) (hcur : cur.size = n) {cs : List Value} (hn : cs.length = n) (hsrc : ∀ j v, cs[j]? = some v → w.cell? ⟨g', j, none⟩ = some v) (h1 : ∀ v ∈ cs, v.oneCell' = true)
    (h : wpList P ops Q rest (a.put o.dst (goInt n)) (w.setRow g cs.toArray)) :
    wpList P ops Q (o :: rest) a w := by
  refine wpList_plain hgd fun K hK' => ?_
  have hrun := run_copy_row (P := P) w dT sT o.type elem g 0 n cap ⟨g', 0, none⟩ n cap' cur t cs hu hsz hg (by rw [hn]; exact (Nat.min_self n).symm) (fun j v hj => by rw [Addr.add_lit, Nat.zero_add]; exact hsrc j v hj) (by omega) h1
  have e : (cur.toList.take 0 ++ cs ++ cur.toList.drop (0 + cs.length)).toArray = cs.toArray := by
    rw [List.take_zero, List.nil_append, Nat.zero_add, List.drop_of_length_le (by simp; omega), List.append_nil]
  rw [e, hn] at hrun
  unfold Oper.wp
  simp [execOp, ho, resolve, invoke, builtin, hd, hs, hrun, Result.andThen]
  exact hK' _ _ h

set_option maxHeartbeats 400000 in
/-- snapshot of a nil bag -/
theorem snap_nil (w : World) : Calls Yba.prog 19 #[.pointer none] w fun e w' => e = .returned (.slice none 0 0) ∧ w' = w := by
  go_enter_defers Yba.func19, Yba.ntmps19
  go_wp2
  exact ⟨_, results_tmp rfl _ _ _, rfl, rfl⟩

theorem setRow_blk {w : World} {g : Nat} {c c' : Array Value} {t : TypeId} (h : Blk w g c t) : Blk (w.setRow g c') g c' t := setRow_heap w g c c' t _ h
theorem setRow_blk_other {w : World} {g k : Nat} {c c' : Array Value} {t : TypeId} (h : Blk w k c t) (hk : k ≠ g) : Blk (w.setRow g c') k c t := by
  unfold Blk at *; rw [setRow_other w g k c' hk]; exact h

/-- Of the blocks that were there none has turned: block b is again what it was, the others were not touched. -/
theorem below_again {w W : World} {b : Nat} {c : Array Value} {t : TypeId} (h : Blk w b c t) (hW : Blk W b c t) (h1 : W.os = w.os) (h2 : W.tape = w.tape) (h3 : W.output = w.output) (h4 : w.heap.size ≤ W.heap.size)
    (h5 : ∀ k, k < w.heap.size → k ≠ b → W.heap[k]? = w.heap[k]?) : Below w.heap.size w W := by
  refine ⟨h1, h2, h3, h4, fun k hk => ?_⟩
  by_cases e : k = b
  · subst e; unfold Blk at h hW; rw [h, hW]
  · exact h5 k hk e

theorem bag_lock {w : World} {b : Nat} {v : Value} (h : Blk w b (bagC v) 40) : Blk (w.setCell ⟨b, 0, none⟩ (.int .i32 1)) b #[.int .i32 1, .int .u32 0, v, .nilIface] 40 := h.setSame 0 _
theorem bag_unlock {w : World} {b : Nat} {v : Value} (h : Blk w b #[.int .i32 1, .int .u32 0, v, .nilIface] 40) : Blk (w.setCell ⟨b, 0, none⟩ (.int .i32 0)) b (bagC v) 40 := h.setSame 0 _

set_option maxHeartbeats 400000 in
/-- snapshot of an empty bag -/
theorem snap_empty (b : Nat) (v : Value) (g cap : Nat) (w : World) (hv : v = .slice (some ⟨g, 0, none⟩) 0 cap) (h : Blk w b (bagC v) 40) :
    Calls Yba.prog 19 #[.pointer (some ⟨b, 0, none⟩)] w fun e w' => e = .returned (.slice none 0 0) ∧ Below w.heap.size w w' := by
  subst hv
  have h0 := h.cell 0
  have h2 := h.cell 2
  have f0 := h.frozen 0
  simp [bagC] at h0 h2
  go_enter_defers Yba.func19, Yba.ntmps19
  go_wp2_with (go_at_call 11; refine (lock_free Yba.muLib ⟨b, 0, none⟩ _ h0 f0).mono ?_; rintro e w' ⟨rfl, rfl⟩)
  refine leaves_cons (f := 12) (args := #[.pointer (some ⟨b, 0, none⟩)]) (by simp) (by simp [go_sem]) ?_
  refine (unlock_deferred Yba.muLib ⟨b, 0, none⟩ .returning _ ((bag_lock h).cell 0) ((bag_lock h).frozen 0)).mono ?_
  rintro e u' w'' ⟨rfl, rfl, rfl⟩
  refine ⟨_, results_tmp rfl _ _ _, rfl, ?_⟩
  exact below_again h (bag_unlock (bag_lock h)) rfl rfl rfl (by simp) (fun k hk hne => by rw [Below.heap_setCell _ _ _ _ hne, Below.heap_setCell _ _ _ _ hne])

set_option maxHeartbeats 1000000 in
/-- snapshot of a bag that holds n errors, n not 0: a copy, in a new row. -/
theorem snap_full (b g n cap lo : Nat) (xs : List Value) (w : World) (hn : 0 < n) (hn2 : n ≤ 4096) (h : Blk w b (bagC (.slice (some ⟨g, 0, none⟩) n cap)) 40) (hown : w.ownsRow lo 28 1 (.slice (some ⟨g, 0, none⟩) n cap) n xs) (hx : xs.length = n) (h1 : ∀ u ∈ xs, u.oneCell' = true) :
    Calls Yba.prog 19 #[.pointer (some ⟨b, 0, none⟩)] w fun e w' => e = .returned (.slice (some ⟨w.heap.size, 0, none⟩) n n) ∧ Blk w' w.heap.size xs.toArray 28 ∧ Below w.heap.size w w' := by
  have h0 := h.cell 0
  have h2 := h.cell 2
  have f0 := h.frozen 0
  simp [bagC] at h0 h2
  have hlt := h.lt
  obtain ⟨cur, hcur, _, _, hcs, hct⟩ := own_blk hown
  have hgb : g ≠ b := by
    intro e; subst e
    unfold Blk at hcur h; rw [h] at hcur; simp at hcur
  have hmk := make25 n n (Nat.le_refl _) (by omega)
  have hne : ((n : Int) == 0) = false := by simp; omega
  go_enter_defers Yba.func19, Yba.ntmps19
  go_wp2_with (first | (go_at_call 11; refine (lock_free Yba.muLib ⟨b, 0, none⟩ _ h0 f0).mono ?_; rintro e w' ⟨rfl, rfl⟩) | (refine wpList_copy_whole _ rfl (.tmp 25) (.tmp 29) 25 25 rfl 28 Yba.underlying25 (by kernel_rfl) (g := w.heap.size) (g' := g) (n := n) (cap := n) (cap' := cap) rfl rfl (cur := nils n) (t := 28) (cs := xs) ?k1 (nils_size n) hx ?k2 h1 ?_))
  case k1 => exact Blk.new _ _ _ _ (by simp)
  case k2 =>
    intro j v hj
    have hb1 : Blk ((w.setCell ⟨b, 0, none⟩ (.int .i32 1)).alloc (.cells (nils n) 28)) g cur 28 := (hcur.setOther (a := ⟨b, 0, none⟩) (Ne.symm hgb) _).alloc _
    rw [hb1.cell, ← Array.getElem?_toList]
    rw [← hct, List.getElem?_take] at hj
    split at hj
    · exact hj
    · cases hj
  have hL : Blk ((((w.setCell ⟨b, 0, none⟩ (.int .i32 1)).alloc (.cells (nils n) 28)).setRow w.heap.size xs.toArray)) b #[.int .i32 1, .int .u32 0, .slice (some ⟨g, 0, none⟩) n cap, .nilIface] 40 :=
    setRow_blk_other ((bag_lock h).alloc _) (by omega)
  have hN : Blk ((((w.setCell ⟨b, 0, none⟩ (.int .i32 1)).alloc (.cells (nils n) 28)).setRow w.heap.size xs.toArray)) w.heap.size xs.toArray 28 :=
    setRow_blk (Blk.new _ _ _ _ (by simp))
  refine leaves_cons (f := 12) (args := #[.pointer (some ⟨b, 0, none⟩)]) (by simp) (by simp [go_sem]) ?_
  refine (unlock_deferred Yba.muLib ⟨b, 0, none⟩ .returning _ (hL.cell 0) (hL.frozen 0)).mono ?_
  rintro e u' w'' ⟨rfl, rfl, rfl⟩
  refine ⟨_, results_tmp rfl _ _ _, rfl, hN.setOther (by simp; omega) _, ?_⟩
  refine below_again h (bag_unlock hL) rfl rfl rfl (by simp) (fun k hk hne => ?_)
  rw [Below.heap_setCell _ _ _ _ hne, setRow_other _ _ _ _ (by omega), Below.heap_alloc _ _ _ (by simp; omega), Below.heap_setCell _ _ _ _ hne]

end Go.Proofs.Ybulkonk
