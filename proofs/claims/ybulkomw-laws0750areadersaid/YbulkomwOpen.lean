/-
  The law's first argument opened: a slice of slices of parts.
-/
import Derived.Test.YbulkomwInput
import Derived.ProofKit
import Derived.SizedLaws
import Derived.Deep.Slices
import Derived.OpenShut
namespace Go.Proofs.Ybulkomw
open Go.ChangeShapes Go.WideShapes Go.ChangeAt Go.RowKit Go.Deep

theorem cells25 : Yba.prog.cellsOf 25 = 1 := by kernel_rfl
theorem cells39 : Yba.prog.cellsOf 39 = 6 := by kernel_rfl
theorem bytes25 : Yba.prog.bytesOf 25 = 24 := by kernel_rfl
theorem bytes39 : Yba.prog.bytesOf 39 = 40 := by kernel_rfl
theorem cells4 : Yba.prog.cellsOf 4 = 1 := by kernel_rfl
theorem cells5 : Yba.prog.cellsOf 5 = 1 := by kernel_rfl
theorem cells2 : Yba.prog.cellsOf 2 = 1 := by kernel_rfl
theorem cells3 : Yba.prog.cellsOf 3 = 1 := by kernel_rfl

theorem weightsAll_mem {H : Type} {P : Program} {e : TypeId} : ∀ {l : List (DataW H)} {d : DataW H}, d ∈ l → ∀ n ∈ d.weights P e, n ∈ DataW.weightsAll P e l
  | d' :: r, d, hd, n, hn => by
    simp only [DataW.weightsAll, List.mem_append]
    rcases List.mem_cons.1 hd with rfl | h
    · exact Or.inl hn
    · exact Or.inr (weightsAll_mem h n hn)

theorem sized_inner {H : Type} {P : Program} {ts : List TypeId} {ds : List (DataW H)} (h : (DataW.weightsEach P ts ds).all (· ≤ reachBytes) = true) {j : Nat} {t e q : TypeId} {elems spare e' sp' : List (DataW H)}
    (ht : ts[j]? = some t) (hd : ds[j]? = some (.slice elems spare)) (hu : P.underlying t = some (.slice e)) (hu2 : P.underlying e = some (.slice q)) (hx : DataW.slice e' sp' ∈ elems) : (e'.length + sp'.length) * P.bytesOf q ≤ reachBytes := by
  refine of_decide_eq_true (List.all_eq_true.1 h _ (DataW.weights_mem_each ht hd _ ?_))
  simp only [DataW.weights, hu, List.mem_cons, List.mem_append]
  exact Or.inr (Or.inl (weightsAll_mem hx _ (by simp [DataW.weights, hu2])))

section
variable {H : Type} {enc : TypeId × Value → H} {w : World}

theorem len6 {α : Type} {l : List α} (h : l.length = 6) : ∃ a b c d e f, l = [a, b, c, d, e, f] := by
  match l, h with
  | [a, b, c, d, e, f], _ => exact ⟨a, b, c, d, e, f, rfl⟩

/-- One part, opened. -/
theorem open_part {fuel : Nat} {cs : List Value} {x : DataW H × List MemPlace} (h : DataW.trod enc Yba.prog w 0 (fun _ => true) true fuel 39 cs = some x) :
    ∃ X : Inp, cs = [.bool X.held, .int .u8 X.file, .int .i64 X.s, .int .i64 X.e, .int .i64 X.k, .int .i64 X.n] ∧ 0 ≤ X.file ∧ X.file ≤ 255 := by
  obtain ⟨xs, n, _, _, hl, hxl, hf⟩ := DataW.trod_struct Yba.underlying39 h
  rw [cells39] at hl
  obtain ⟨y0, y1, y2, y3, y4, y5, rfl⟩ := len6 (show xs.length = 6 from hxl)
  obtain ⟨v0, v1, v2, v3, v4, v5, rfl⟩ := len6 hl
  have g0 := hf 0 _ rfl
  have g1 := hf 1 _ rfl
  have g2 := hf 2 _ rfl
  have g3 := hf 3 _ rfl
  have g4 := hf 4 _ rfl
  have g5 := hf 5 _ rfl
  simp [cells4, cells5, cells2, cells3] at g0 g1 g2 g3 g4 g5
  obtain ⟨b, e0, _⟩ := DataW.trod_bool Yba.underlying4 g0
  obtain ⟨z1, e1, _, hw⟩ := DataW.trod_int Yba.underlying5 g1
  obtain ⟨z2, e2, _, _⟩ := DataW.trod_int Yba.underlying2 g2
  obtain ⟨z3, e3, _, _⟩ := DataW.trod_int Yba.underlying2 g3
  obtain ⟨z4, e4, _, _⟩ := DataW.trod_int Yba.underlying3 g4
  obtain ⟨z5, e5, _, _⟩ := DataW.trod_int Yba.underlying3 g5
  simp at e0 e1 e2 e3 e4 e5
  subst e0 e1 e2 e3 e4 e5
  have hb := bounds_u8 hw
  exact ⟨⟨b, z1, z2, z3, z4, z5⟩, rfl, hb.1, hb.2⟩

/-- What is known of one line that came in. -/
def RowIn (w : World) (v : Value) (A : Option Addr) (L C rb ro : Nat) (I : Nat → Inp) : Prop :=
  v = .slice A L C ∧ L ≤ C ∧ (∀ j, j < L → A = some ⟨rb, ro, none⟩ ∧ rb < w.heap.size ∧ w.cell? ⟨rb, ro + j * 6, none⟩ = some (.bool (I j).held) ∧ w.cell? ⟨rb, ro + j * 6 + 1, none⟩ = some (.int .u8 (I j).file) ∧
    w.cell? ⟨rb, ro + j * 6 + 2, none⟩ = some (.int .i64 (I j).s) ∧ w.cell? ⟨rb, ro + j * 6 + 3, none⟩ = some (.int .i64 (I j).e) ∧ w.cell? ⟨rb, ro + j * 6 + 4, none⟩ = some (.int .i64 (I j).k) ∧ w.cell? ⟨rb, ro + j * 6 + 5, none⟩ = some (.int .i64 (I j).n)) ∧
    (∀ j, j < L → 0 ≤ (I j).file ∧ (I j).file ≤ 255)

theorem choose_at {α : Type} (d : α) {n : Nat} {p : Nat → α → Prop} (h : ∀ i, i < n → ∃ x, p i x) : ∃ f : Nat → α, ∀ i, i < n → p i (f i) := by
  haveI : Inhabited α := ⟨d⟩
  exact choose_lt h

/-- One line, opened. -/
theorem open_row {fuel : Nat} {v : Value} {d : DataW H} {pl : List MemPlace} (h : DataW.trod enc Yba.prog w 0 (fun _ => true) true fuel 25 [v] = some (d, pl)) :
    ∃ (A : Option Addr) (L C rb ro : Nat) (I : Nat → Inp), RowIn w v A L C rb ro I ∧ (d = .nil ∧ C = 0 ∨ ∃ es sp : List (DataW H), d = .slice es sp ∧ es.length + sp.length = C) := by
  rcases open_slice Yba.underlying25 h with ⟨hcs, hx⟩ | ⟨a, len, cap, m, n, D, Pl, hcs, _, hl, hm, hmm, hx, hel⟩
  · simp at hcs hx
    exact ⟨none, 0, 0, 0, 0, fun _ => ⟨false, 0, 0, 0, 0, 0⟩, ⟨hcs, Nat.le_refl _, fun j hj => by omega, fun j hj => by omega⟩, Or.inl ⟨hx.1, rfl⟩⟩
  · simp only [if_true] at hmm
    subst hmm
    simp only [List.cons.injEq, and_true] at hcs
    simp only [Prod.mk.injEq] at hx
    rw [cells39] at hel
    have each : ∀ j, j < m → ∃ X : Inp, (∀ q, q < 6 → w.cell? ((a.add (j * 6)).add q) = [Value.bool X.held, .int .u8 X.file, .int .i64 X.s, .int .i64 X.e, .int .i64 X.k, .int .i64 X.n][q]?) ∧ 0 ≤ X.file ∧ X.file ≤ 255 := by
      intro j hj
      obtain ⟨cs', h1, h2⟩ := hel j hj
      obtain ⟨_, _, hcell⟩ := World.cells?_some h1
      obtain ⟨X, rfl, b0, b1⟩ := open_part h2
      exact ⟨X, hcell, b0, b1⟩
    obtain ⟨I, hI⟩ := choose_at ⟨false, 0, 0, 0, 0, 0⟩ each
    refine ⟨some a, len, m, a.block, a.off, I, ⟨hcs, hl, fun j hj => ?_, fun j hj => (hI j (by omega)).2⟩, Or.inr ⟨_, _, hx.1, by simp; omega⟩⟩
    have hz := (hI 0 (by omega)).1 0 (by omega)
    have hsp : a.spot = none := by
      have := World.cell?_spot hz
      simpa [Addr.add] using this
    have hblk : a.block < w.heap.size := by
      have := World.block_lt_of_cell? _ _ hz
      simpa [Addr.add] using this
    obtain ⟨ab, ao, sp⟩ := a
    simp only at hsp hblk
    subst hsp
    have hj' := (hI j (by omega)).1
    simp only [Addr.add_lit] at hj'
    refine ⟨rfl, hblk, ?_, ?_, ?_, ?_, ?_, ?_⟩
    · simpa using hj' 0 (by omega)
    · simpa using hj' 1 (by omega)
    · simpa using hj' 2 (by omega)
    · simpa using hj' 3 (by omega)
    · simpa using hj' 4 (by omega)
    · simpa using hj' 5 (by omega)

/-- The whole argument, opened. -/
theorem open_lines {fuel : Nat} {v : Value} {d : DataW H} {pl : List MemPlace} (h : DataW.trod enc Yba.prog w 0 (fun _ => true) true fuel 22 [v] = some (d, pl)) {ts : List TypeId} {ds : List (DataW H)} (hsz : (DataW.weightsEach Yba.prog ts ds).all (· ≤ reachBytes) = true) {j0 : Nat} (ht : ts[j0]? = some 22) (hd : ds[j0]? = some d) :
    ∃ (a0 : Option Addr) (n cap ab ao : Nat) (A : Nat → Option Addr) (L C rb ro : Nat → Nat) (I : Nat → Nat → Inp), v = .slice a0 n cap ∧ Input w a0 n ab ao A L C rb ro I := by
  rcases open_slice1 Yba.underlying22 cells25 h with ⟨hcs, hx⟩ | ⟨a, len, cap, m, n, V, D, Pl, hcs, _, hl, hm, hmm, hx, hel⟩
  · simp at hcs
    exact ⟨none, 0, 0, 0, 0, fun _ => none, fun _ => 0, fun _ => 0, fun _ => 0, fun _ => 0, fun _ _ => ⟨false, 0, 0, 0, 0, 0⟩, hcs, ⟨by omega, fun r hr => by omega, fun r hr => by omega, fun r hr => by omega, fun r hr => by omega⟩⟩
  · simp only [if_true] at hmm
    subst hmm
    simp only [List.cons.injEq, and_true] at hcs
    simp only [Prod.mk.injEq] at hx
    have hn : m * 24 ≤ 140737488351232 := by
      rw [hx.1] at hd
      have := sized_slice hsz ht hd Yba.underlying22
      rw [bytes25] at this
      simp only [List.length_map, List.length_range, reachBytes] at this
      omega
    have each : ∀ r, r < m → ∃ y : Option Addr × Nat × Nat × Nat × Nat × (Nat → Inp), RowIn w (V r) y.1 y.2.1 y.2.2.1 y.2.2.2.1 y.2.2.2.2.1 y.2.2.2.2.2 ∧ (D r = .nil ∧ y.2.2.1 = 0 ∨ ∃ es sp : List (DataW H), D r = .slice es sp ∧ es.length + sp.length = y.2.2.1) := by
      intro r hr
      obtain ⟨A, L, C, rb, ro, I, h1, h2⟩ := open_row (hel r hr).2
      exact ⟨(A, L, C, rb, ro, I), h1, h2⟩
    obtain ⟨y, hy⟩ := choose_at (none, 0, 0, 0, 0, fun _ => ⟨false, 0, 0, 0, 0, 0⟩) each
    refine ⟨some a, len, m, a.block, a.off, fun r => (y r).1, fun r => (y r).2.1, fun r => (y r).2.2.1, fun r => (y r).2.2.2.1, fun r => (y r).2.2.2.2.1, fun r => (y r).2.2.2.2.2, hcs, ⟨by omega, fun r hr => ?_, fun r hr => ?_, fun r hr => ?_, fun r hr => ?_⟩⟩
    · have hz := (hel 0 (by omega)).1
      have hsp : a.spot = none := by
        have := World.cell?_spot hz
        simpa [Addr.add] using this
      have hblk : a.block < w.heap.size := by
        have := World.block_lt_of_cell? _ _ hz
        simpa [Addr.add] using this
      obtain ⟨ab, ao, sp⟩ := a
      simp only at hsp hblk
      subst hsp
      have hc := (hel r (by omega)).1
      rw [Addr.add_lit, (hy r (by omega)).1.1] at hc
      exact ⟨rfl, hblk, hc⟩
    · have hLC := (hy r (by omega)).1.2.1
      rcases (hy r (by omega)).2 with ⟨_, h0⟩ | ⟨es, sp, hes, hlen⟩
      · omega
      · rw [hx.1] at hd
        have := sized_inner hsz ht hd Yba.underlying22 Yba.underlying25 (e' := es) (sp' := sp) (List.mem_map.2 ⟨r, List.mem_range.2 hr, hes⟩)
        rw [bytes39, hlen] at this
        simp only [reachBytes] at this
        omega
    · exact (hy r (by omega)).1.2.2.1
    · exact (hy r (by omega)).1.2.2.2

end
end Go.Proofs.Ybulkomw
