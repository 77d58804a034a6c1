/-
  The states of zzs0750acheck between its loops, and what each step does to them. No walk here.
-/
import Derived.Test.YbulkomwCont
namespace Go.Proofs.Ybulkomw
open Go.RowKit

def fad (B k : Nat) : Option Addr := if k = 0 then none else some ⟨B + k, 0, none⟩
theorem fptr_fad (B k : Nat) : fptr B k = .pointer (fad B k) := rfl

/-- One part as the law's input has it. -/
structure Inp where
  held : Bool
  file : Int
  s : Int
  e : Int
  k : Int
  n : Int

/-- Which of the five files. -/
def Inp.kf (X : Inp) : Nat := (X.file % 5).toNat
def Inp.part (B : Nat) (X : Inp) : Part := { file := .pointer (fad B X.kf), s := X.s, e := X.e, k := X.k, n := X.n, held := X.held }

theorem Inp.kf_lt (X : Inp) : X.kf < 5 := by unfold Inp.kf; omega

def zeroPart : Part := { file := .pointer none, s := 0, e := 0, k := 0, n := 0, held := false }

/-- Where line r's parts lie: behind them one block for each part (the loop's variable). -/
def gp (b : Nat) (L : Nat → Nat) : Nat → Nat
  | 0 => b
  | r + 1 => gp b L r + 1 + L r

theorem gp_lt (b : Nat) (L : Nat → Nat) {r s : Nat} (h : r < s) : gp b L r < gp b L s := by
  induction s with
  | zero => omega
  | succ s ih =>
    by_cases e : r = s
    · subst e; simp [gp]; omega
    · have := ih (by omega); simp only [gp]; omega
theorem gp_ge (b : Nat) (L : Nat → Nat) (r : Nat) : b ≤ gp b L r := by
  induction r with
  | zero => exact Nat.le_refl _
  | succ s ih => simp only [gp]; omega
theorem gp_inj (b : Nat) (L : Nat → Nat) {r s : Nat} (h : gp b L r = gp b L s) : r = s := by
  rcases Nat.lt_trichotomy r s with h1 | h1 | h1
  · have := gp_lt b L h1; omega
  · exact h1
  · have := gp_lt b L h1; omega

def filesArr (B : Nat) : Array Value := #[.pointer none, .pointer (some ⟨B + 1, 0, none⟩), .pointer (some ⟨B + 2, 0, none⟩), .pointer (some ⟨B + 3, 0, none⟩), .pointer (some ⟨B + 4, 0, none⟩)]
theorem filesArr_at (B k : Nat) (h : k < 5) : (filesArr B)[k]? = some (.pointer (fad B k)) := by
  match k, h with
  | 0, _ => rfl
  | 1, _ => rfl
  | 2, _ => rfl
  | 3, _ => rfl
  | 4, _ => rfl

def pendZ (n : Nat) : Array Value := madeCells #[.int .u64 0, .int .i64 0, .pointer none, .string ByteArray.empty, .slice none 0 0, .slice none 0 0, .bool false, .slice none 0 0, .int .i64 0, .bool false] (n * 10)
def partZ (m : Nat) : Array Value := madeCells #[.pointer none, .int .i64 0, .int .i64 0, .int .i64 0, .int .i64 0, .bool false, .slice none 0 0, .int .i64 0] (m * 8)

theorem make36 (n : Nat) (h : n ≤ 1024) (w : World) : (Instr.makeSlice 36 (.int .i64 n) (.int .i64 n)).run Yba.prog w = .ok (.slice (some ⟨w.heap.size, 0, none⟩) n n) (w.alloc (.cells (pendZ n) 56)) := by
  have hi : (Yba.prog.info? 56).map (fun i => (i.zero, i.size, i.bytes)) = some (some (.agg #[.int .u64 0, .int .i64 0, .pointer none, .string ByteArray.empty, .slice none 0 0, .slice none 0 0, .bool false, .slice none 0 0, .int .i64 0, .bool false]), 10, 136) := by kernel_rfl
  obtain ⟨i, hi, hz, hs, hb⟩ := info_parts hi
  have := run_make (P := Yba.prog) w 36 56 i _ Yba.underlying36 hi hz .i64 .i64 n n (by omega) (by omega) (by rw [hb]; omega) (by omega)
  rw [this, hs]
  simp [pendZ, Value.cells]
theorem make37 (n : Nat) (h : n ≤ 1024) (w : World) : (Instr.makeSlice 37 (.int .i64 n) (.int .i64 n)).run Yba.prog w = .ok (.slice (some ⟨w.heap.size, 0, none⟩) n n) (w.alloc (.cells (partZ n) 46)) := by
  have hi : (Yba.prog.info? 46).map (fun i => (i.zero, i.size, i.bytes)) = some (some (.agg #[.pointer none, .int .i64 0, .int .i64 0, .int .i64 0, .int .i64 0, .bool false, .slice none 0 0, .int .i64 0]), 8, 80) := by kernel_rfl
  obtain ⟨i, hi, hz, hs, hb⟩ := info_parts hi
  have := run_make (P := Yba.prog) w 37 46 i _ Yba.underlying37 hi hz .i64 .i64 n n (by omega) (by omega) (by rw [hb]; omega) (by omega)
  rw [this, hs]
  simp [partZ, Value.cells]

theorem partZ_at (m j q : Nat) (hj : j < m) (hq : q < 8) : (partZ m)[j * 8 + q]? = some (pcell zeroPart q) := by
  have hlt : j * 8 + q < m * 8 := by omega
  have hm : (j * 8 + q) % 8 = q := by omega
  unfold partZ madeCells
  rw [Array.getElem?_map, Array.getElem?_range, if_pos hlt]
  show some (#[_, _, _, _, _, _, _, _][(j * 8 + q) % 8]!) = _
  rw [hm]
  match q, hq with
  | 0, _ => rfl
  | 1, _ => rfl
  | 2, _ => rfl
  | 3, _ => rfl
  | 4, _ => rfl
  | 5, _ => rfl
  | 6, _ => rfl
  | 7, _ => rfl

theorem PRow.made (w : World) (m : Nat) : PRow (w.alloc (.cells (partZ m) 46)) w.heap.size m (fun _ => zeroPart) :=
  ⟨partZ m, Blk.new _ _ _ _ rfl, by simp [partZ, size_madeCells]; omega, fun j hj q hq => partZ_at m j q hj hq⟩

/-- All eight cells of part j set to those of X. -/
theorem PRow.set8 {w : World} {g m : Nat} {D : Nat → Part} (h : PRow w g m D) {j : Nat} (hj : j < m) (X : Part) :
    PRow ((((((((w.setCell ⟨g, j * 8, none⟩ X.file).setCell ⟨g, j * 8 + 1, none⟩ (.int .i64 X.s)).setCell ⟨g, j * 8 + 2, none⟩ (.int .i64 X.e)).setCell ⟨g, j * 8 + 3, none⟩ (.int .i64 X.k)).setCell ⟨g, j * 8 + 4, none⟩ (.int .i64 X.n)).setCell ⟨g, j * 8 + 5, none⟩ (.bool X.held)).setCell ⟨g, j * 8 + 6, none⟩ (.slice none 0 0)).setCell ⟨g, j * 8 + 7, none⟩ (.int .i64 0)) g m
      (fun i => if i = j then X else D i) := by
  obtain ⟨c, hb, hs, hc⟩ := h
  refine ⟨_, (((((((hb.setSame _ _).setSame _ _).setSame _ _).setSame _ _).setSame _ _).setSame _ _).setSame _ _).setSame _ _, by simp [hs], ?_⟩
  intro i hi q hq
  by_cases e : i = j
  · subst e
    simp only [if_pos, Array.getElem?_setIfInBounds, Array.size_setIfInBounds, hs]
    match q, hq with
    | 0, _ => simp [pcell]; omega
    | 1, _ => simp [pcell]; omega
    | 2, _ => simp [pcell]; omega
    | 3, _ => simp [pcell]; omega
    | 4, _ => simp [pcell]; omega
    | 5, _ => simp [pcell]; omega
    | 6, _ => simp [pcell]; omega
    | 7, _ => simp [pcell]; omega
  · have := hc i hi q hq
    simp only [if_neg e, Array.getElem?_setIfInBounds]
    rw [if_neg (by omega), if_neg (by omega), if_neg (by omega), if_neg (by omega), if_neg (by omega), if_neg (by omega), if_neg (by omega), if_neg (by omega)]
    exact this

/-- Ahead of round k of the building loop. -/
structure Build (w : World) (n : Nat) (L : Nat → Nat) (I : Nat → Nat → Inp) (k : Nat) (wr : World) : Prop where
  below : Below w.heap.size w wr
  files : Files w.heap.size wr
  arr : Blk wr (w.heap.size + 5) (filesArr w.heap.size) 35
  size : wr.heap.size = gp (w.heap.size + 7) L k
  pend : ∃ c, Blk wr (w.heap.size + 6) c 56 ∧ c.size = n * 10 ∧ ∀ r, r < k → c[r * 10 + 7]? = some (.slice (some ⟨gp (w.heap.size + 7) L r, 0, none⟩) (L r) (L r))
  rows : ∀ r, r < k → PRow wr (gp (w.heap.size + 7) L r) (L r) (fun j => (I r j).part w.heap.size)

theorem build_start (w : World) (n : Nat) (L : Nat → Nat) (I : Nat → Nat → Inp) :
    Build w n L I 0 (((((((w.alloc (.cells #[.int .u8 0] 28)).alloc (.cells #[.nilIface, .pointer (some ⟨w.heap.size, 0, none⟩), .pointer none] 34)).alloc (.cells #[.nilIface, .pointer (some ⟨w.heap.size, 0, none⟩), .pointer none] 34)).alloc
      (.cells #[.nilIface, .pointer none, .pointer none] 34)).alloc (.cells #[.nilIface, .pointer none, .pointer none] 34)).alloc (.cells (filesArr w.heap.size) 35)).alloc (.cells (pendZ n) 56)) := by
  refine ⟨?_, ?_, ?_, by simp [gp], ?_, fun r hr => by omega⟩
  · exact (((((((Below.refl _ _).alloc (by simp) _).alloc (by simp <;> omega) _).alloc (by simp <;> omega) _).alloc (by simp <;> omega) _).alloc (by simp <;> omega) _).alloc (by simp <;> omega) _).alloc (by simp <;> omega) _
  · intro k h1 h4
    have : k = 1 ∨ k = 2 ∨ k = 3 ∨ k = 4 := by omega
    rcases this with rfl | rfl | rfl | rfl
    · exact (((((Blk.new _ _ _ _ (by simp)).alloc _).alloc _).alloc _).alloc _).alloc _
    · exact ((((Blk.new _ _ _ _ (by simp)).alloc _).alloc _).alloc _).alloc _
    · exact (((Blk.new _ _ _ _ (by simp)).alloc _).alloc _).alloc _
    · exact ((Blk.new _ _ _ _ (by simp)).alloc _).alloc _
  · exact (Blk.new _ _ _ _ (by simp)).alloc _
  · exact ⟨_, Blk.new _ _ _ _ (by simp), by simp [pendZ, size_madeCells], fun r hr => by omega⟩

/-- Ahead of round j of the inner building loop, at line k; wo: the world ahead of the line. -/
structure Inner (w : World) (L : Nat → Nat) (I : Nat → Nat → Inp) (k : Nat) (wo : World) (j : Nat) (wr : World) : Prop where
  below : Below (gp (w.heap.size + 7) L k) wo wr
  size : wr.heap.size = gp (w.heap.size + 7) L k + 1 + j
  row : PRow wr (gp (w.heap.size + 7) L k) (L k) (fun i => if i < j then (I k i).part w.heap.size else zeroPart)

theorem inner_start {w : World} {n : Nat} {L : Nat → Nat} {I : Nat → Nat → Inp} {k : Nat} {wo : World} (H : Build w n L I k wo) : Inner w L I k wo 0 (wo.alloc (.cells (partZ (L k)) 46)) := by
  refine ⟨(Below.refl _ _).alloc (by rw [H.size]; exact Nat.le_refl _) _, by simp [H.size], ?_⟩
  rw [← H.size]
  exact (PRow.made wo (L k)).congr (fun j _ => by simp)

/-- The world behind one inner round: the loop's variable laid, n draws, the eight cells of part j. -/
theorem inner_step {w : World} {n : Nat} {L : Nat → Nat} {I : Nat → Nat → Inp} {k : Nat} {wo : World} (_H : Build w n L I k wo) {j : Nat} {wr : World} (M : Inner w L I k wo j wr) (hj : j < L k) (o : Obj) (wx : World)
    (hx : wx = wr.alloc o ∨ wx = (wr.alloc o).drew) (X : Part) (hX : X = (I k j).part w.heap.size) :
    Inner w L I k wo (j + 1) ((((((((wx.setCell ⟨gp (w.heap.size + 7) L k, j * 8, none⟩ X.file).setCell ⟨gp (w.heap.size + 7) L k, j * 8 + 1, none⟩ (.int .i64 X.s)).setCell ⟨gp (w.heap.size + 7) L k, j * 8 + 2, none⟩ (.int .i64 X.e)).setCell ⟨gp (w.heap.size + 7) L k, j * 8 + 3, none⟩ (.int .i64 X.k)).setCell ⟨gp (w.heap.size + 7) L k, j * 8 + 4, none⟩ (.int .i64 X.n)).setCell ⟨gp (w.heap.size + 7) L k, j * 8 + 5, none⟩ (.bool X.held)).setCell ⟨gp (w.heap.size + 7) L k, j * 8 + 6, none⟩ (.slice none 0 0)).setCell ⟨gp (w.heap.size + 7) L k, j * 8 + 7, none⟩ (.int .i64 0)) := by
  have hlt := M.row.lt
  have hb : Below (gp (w.heap.size + 7) L k) wo wx := by
    have h1 : Below (gp (w.heap.size + 7) L k) wo (wr.alloc o) := M.below.alloc (by omega) o
    rcases hx with rfl | rfl
    · exact h1
    · exact h1.drew
  have hr : PRow wx (gp (w.heap.size + 7) L k) (L k) (fun i => if i < j then (I k i).part w.heap.size else zeroPart) := by
    rcases hx with rfl | rfl
    · exact M.row.alloc o
    · exact (M.row.alloc o).drew
  have hsz : wx.heap.size = wr.heap.size + 1 := by rcases hx with rfl | rfl <;> simp
  refine ⟨?_, by simp [hsz, M.size]; omega, (hr.set8 hj X).congr (fun i _ => ?_)⟩
  · exact (((((((hb.setCell (Nat.le_refl _) _).setCell (Nat.le_refl _) _).setCell (Nat.le_refl _) _).setCell (Nat.le_refl _) _).setCell (Nat.le_refl _) _).setCell (Nat.le_refl _) _).setCell (Nat.le_refl _) _).setCell (Nat.le_refl _) _
  · by_cases e : i = j
    · subst e; simp [hX]
    · simp only [if_neg e]
      by_cases h1 : i < j
      · rw [if_pos h1, if_pos (by omega)]
      · rw [if_neg h1, if_neg (by omega)]

theorem Inner.drew {w : World} {L : Nat → Nat} {I : Nat → Nat → Inp} {k : Nat} {wo : World} {j : Nat} {wr : World} (M : Inner w L I k wo j wr) : Inner w L I k wo j wr.drew :=
  ⟨M.below.drew, M.size, M.row.drew⟩

/-- Behind the inner loop: the slice is stored into the pending line. -/
theorem build_step {w : World} {n : Nat} {L : Nat → Nat} {I : Nat → Nat → Inp} {k : Nat} {wo : World} (H : Build w n L I k wo) (hk : k < n) {wr : World} (M : Inner w L I k wo (L k) wr) :
    Build w n L I (k + 1) (wr.setCell ⟨w.heap.size + 6, k * 10 + 7, none⟩ (.slice (some ⟨gp (w.heap.size + 7) L k, 0, none⟩) (L k) (L k))) := by
  have hge := gp_ge (w.heap.size + 7) L k
  obtain ⟨c, hc, hcs, hcr⟩ := H.pend
  refine ⟨?_, ?_, ?_, by simp [M.size, gp], ?_, ?_⟩
  · exact (H.below.trans (M.below.mono (by omega))).setCell (by simp) _
  · exact (H.files.below M.below (by omega)).setCell (by simp) _
  · exact (H.arr.below M.below (by omega)).setOther (by simp) _
  · refine ⟨_, (hc.below M.below (by omega)).setSame _ _, by simp [hcs], ?_⟩
    intro r hr
    rw [Array.getElem?_setIfInBounds]
    by_cases e : r = k
    · subst e; rw [if_pos rfl, if_pos (by omega)]
    · rw [if_neg (by omega)]; exact hcr r (by omega)
  · intro r hr
    by_cases e : r = k
    · subst e
      exact (M.row.setOther (by simp; omega) _).congr (fun j hj => by simp [hj])
    · have h1 := gp_lt (w.heap.size + 7) L (show r < k by omega)
      have h2 := gp_ge (w.heap.size + 7) L r
      exact ((H.rows r (by omega)).below M.below h1).setOther (by simp; omega) _


/-- The built lines as Continue wants them. -/
theorem lines_of_build {w : World} {n : Nat} {L : Nat → Nat} {I : Nat → Nat → Inp} {wr : World} (H : Build w n L I n wr) (hn : n ≤ 1024) (hL : ∀ r, r < n → L r ≤ 1024) {w3 : World} (hb : Below wr.heap.size wr w3) :
    Lines w.heap.size (w.heap.size + 6) n (gp (w.heap.size + 7) L) L (fun r j => (I r j).kf) (fun r j => (I r j).part w.heap.size) w3 := by
  obtain ⟨c, hc, hcs, hcr⟩ := H.pend
  refine ⟨H.files.below hb ?_, ⟨c, hc.below hb hc.lt, hcs, hcr⟩, fun r hr => (H.rows r hr).below hb (H.rows r hr).lt, fun r hr j hj => ⟨(I r j).kf_lt, rfl⟩, fun r hr s hs e => gp_inj _ _ e, ?_, by omega, hn, hL⟩
  · have := H.arr.lt; omega
  · intro r hr
    have := gp_ge (w.heap.size + 7) L r
    omega

/-- What stands behind Continue. -/
structure Done (w : World) (n : Nat) (L : Nat → Nat) (I : Nat → Nat → Inp) (l lb nb : Nat) (w' : World) : Prop where
  r : w'.cell? ⟨lb, 0, none⟩ = some (.iface 65 (.pointer (some ⟨nb, 0, none⟩)))
  p : w'.cell? ⟨lb, 1, none⟩ = some (.slice (some ⟨w.heap.size + 6, 0, none⟩) n n)
  below : Below w.heap.size w w'
  arr : Blk w' (w.heap.size + 5) (filesArr w.heap.size) 35
  pend : Pend w' (w.heap.size + 6) n (gp (w.heap.size + 7) L) L
  rows : ∀ r, r < n → PRow w' (gp (w.heap.size + 7) L r) (L r) (left (fun j => (I r j).kf) (fun j => (I r j).part w.heap.size) l)

theorem done_of_after {w : World} {n : Nat} {L : Nat → Nat} {I : Nat → Nat → Inp} {wr : World} (H : Build w n L I n wr) {w3 : World} (hb : Below wr.heap.size wr w3) {l lb nb sb : Nat} (hsb : wr.heap.size ≤ sb) (hlb : wr.heap.size ≤ lb) {w' : World}
    (A : After n (w.heap.size + 6) (gp (w.heap.size + 7) L) L (fun r j => (I r j).kf) (fun r j => (I r j).part w.heap.size) l lb nb sb w3 w') : Done w n L I l lb nb w' := by
  have hpl := H.arr.lt
  obtain ⟨c, hc, hcs, hcr⟩ := H.pend
  have hcl := hc.lt
  have hbase : w.heap.size ≤ wr.heap.size := H.below.size
  have hS : ∀ k, k < w.heap.size + 7 → k < wr.heap.size → ¬ (k = lb ∨ k = sb ∨ ∃ r, r < n ∧ k = gp (w.heap.size + 7) L r) := by
    rintro k h1 h2 (h | h | ⟨r, _, h⟩)
    · omega
    · omega
    · have := gp_ge (w.heap.size + 7) L r; omega
  refine ⟨A.r, A.p, ?_, A.only.blk (H.arr.below hb hpl) (hS _ (by omega) (by omega)), A.only.pend ⟨c, hc.below hb hc.lt, hcs, hcr⟩ (hS _ (by omega) (by omega)), A.rows⟩
  refine (H.below.trans (hb.mono hbase)).trans ⟨A.only.os, A.only.tape, A.only.output, by rw [A.only.size]; exact Nat.le_refl _, fun k hk => A.only.block k (hS k (by omega) (by omega))⟩

/-- Continue called on the stand-in. -/
theorem standin_call {w : World} {n : Nat} {L : Nat → Nat} {I : Nat → Nat → Inp} {wr : World} (H : Build w n L I n wr) (hn : n ≤ 1024) (hL : ∀ r, r < n → L r ≤ 1024) (l : Nat) (hl : l < 5) (lrc nx : Array Value) (t1 t2 : TypeId)
    (h0 : lrc[0]? = some (.iface 57 (.pointer (some ⟨wr.heap.size, 0, none⟩)))) (h1 : lrc[1]? = some (.slice (some ⟨w.heap.size + 6, 0, none⟩) n n)) :
    Calls Yba.prog 6 #[.pointer (some ⟨wr.heap.size + 1, 0, none⟩), .pointer (some ⟨wr.heap.size + 1 + 1, 0, none⟩)]
      (((wr.alloc (.cells #[.pointer (fad w.heap.size l), .int .i64 0] 59)).alloc (.cells lrc t1)).alloc (.cells nx t2)) fun e w' =>
      e = .returned (.tuple #[]) ∧ w'.cell? ⟨wr.heap.size, 1, none⟩ = some (.int .i64 1) ∧ Done w n L I l (wr.heap.size + 1) (wr.heap.size + 1 + 1) w' := by
  obtain ⟨c, hc, _, _⟩ := H.pend
  have hcl := hc.lt
  have hb : Below wr.heap.size wr (((wr.alloc (.cells #[.pointer (fad w.heap.size l), .int .i64 0] 59)).alloc (.cells lrc t1)).alloc (.cells nx t2)) :=
    (((Below.refl _ _).alloc (by simp) _).alloc (by simp) _).alloc (by simp; omega) _
  have hlr : Blk (((wr.alloc (.cells #[.pointer (fad w.heap.size l), .int .i64 0] 59)).alloc (.cells lrc t1)).alloc (.cells nx t2)) (wr.heap.size + 1) lrc t1 := (Blk.new _ _ _ _ (by simp)).alloc _
  have hs : Blk (((wr.alloc (.cells #[.pointer (fad w.heap.size l), .int .i64 0] 59)).alloc (.cells lrc t1)).alloc (.cells nx t2)) wr.heap.size #[.pointer (fad w.heap.size l), .int .i64 0] 59 := ((Blk.new _ _ _ _ (by simp)).alloc _).alloc _
  refine (cont57 (lines_of_build H hn hL hb) l hl (wr.heap.size + 1) (wr.heap.size + 1 + 1) wr.heap.size ((hlr.cell 0).trans h0) ((hlr.cell 1).trans h1) (hlr.frozen 0) hs (fun r hr => (H.rows r hr).lt) (by omega) (by omega)).mono ?_
  rintro e w' ⟨he, hc1, hA⟩
  exact ⟨he, hc1, done_of_after H hb (Nat.le_refl _) (by omega) hA⟩

/-- Continue called on a Reader. -/
theorem reader_call {w : World} {n : Nat} {L : Nat → Nat} {I : Nat → Nat → Inp} {wr : World} (H : Build w n L I n wr) (hn : n ≤ 1024) (hL : ∀ r, r < n → L r ≤ 1024) (l : Nat) (hl : l < 5) (sc lrc rd nx : Array Value) (t0 t1 t2 t3 : TypeId)
    (h0 : lrc[0]? = some (.iface 65 (.pointer (some ⟨wr.heap.size + 1 + 1, 0, none⟩)))) (h1 : lrc[1]? = some (.slice (some ⟨w.heap.size + 6, 0, none⟩) n n)) (h2 : rd[50]? = some (.pointer (fad w.heap.size l))) :
    Calls Yba.prog 6 #[.pointer (some ⟨wr.heap.size + 1, 0, none⟩), .pointer (some ⟨wr.heap.size + 1 + 1 + 1, 0, none⟩)]
      ((((wr.alloc (.cells sc t0)).alloc (.cells lrc t1)).alloc (.cells rd t2)).alloc (.cells nx t3)) fun e w' =>
      e = .returned (.tuple #[]) ∧ Done w n L I l (wr.heap.size + 1) (wr.heap.size + 1 + 1 + 1) w' := by
  obtain ⟨c, hc, _, _⟩ := H.pend
  have hcl := hc.lt
  have hb : Below wr.heap.size wr ((((wr.alloc (.cells sc t0)).alloc (.cells lrc t1)).alloc (.cells rd t2)).alloc (.cells nx t3)) :=
    ((((Below.refl _ _).alloc (by simp) _).alloc (by simp) _).alloc (by simp; omega) _).alloc (by simp; omega) _
  have hlr : Blk ((((wr.alloc (.cells sc t0)).alloc (.cells lrc t1)).alloc (.cells rd t2)).alloc (.cells nx t3)) (wr.heap.size + 1) lrc t1 := ((Blk.new _ _ _ _ (by simp)).alloc _).alloc _
  have hs : Blk ((((wr.alloc (.cells sc t0)).alloc (.cells lrc t1)).alloc (.cells rd t2)).alloc (.cells nx t3)) (wr.heap.size + 1 + 1) rd t2 := (Blk.new _ _ _ _ (by simp)).alloc _
  refine (cont65 (lines_of_build H hn hL hb) l hl (wr.heap.size + 1) (wr.heap.size + 1 + 1 + 1) wr.heap.size (wr.heap.size + 1 + 1) ((hlr.cell 0).trans h0) ((hlr.cell 1).trans h1) (hlr.frozen 0) ((hs.cell 50).trans h2) (fun r hr => (H.rows r hr).lt) (by omega) (by omega)).mono ?_
  rintro e w' ⟨he, hA⟩
  exact ⟨he, done_of_after H hb (Nat.le_refl _) (by omega) hA⟩

theorem info65 : ∃ i, Yba.prog.info? 65 = some i ∧ i.comparable = true := by
  have h : (Yba.prog.info? 65).map (fun i => i.comparable) = some true := by kernel_rfl
  obtain ⟨i, hi, hc⟩ := Option.map_eq_some_iff.1 h
  exact ⟨i, hi, hc⟩
theorem info92 : ∃ i, Yba.prog.info? 92 = some i := by
  have h : (Yba.prog.info? 92).map (fun i => i.size) = some 69 := by kernel_rfl
  obtain ⟨i, hi, _⟩ := Option.map_eq_some_iff.1 h
  exact ⟨i, hi⟩

/-- 'lr.r != recordReader(next)' where they are one. -/
theorem neq62 (a : Addr) (w : World) : (binOp .neq 62 (.iface 65 (.pointer (some a))) (.iface 65 (.pointer (some a)))).run Yba.prog w = .ok (.bool false) w := by
  obtain ⟨i, hi, hcmp⟩ := info65
  obtain ⟨j, hj⟩ := info92
  simp only [binOp]
  simp [Op.equal, Op.maxDepth, run_equalIn_iface_ptr_same w 9998 a Yba.underlying62 Yba.underlying65 hi hcmp hj]

theorem eqp29 (p : Option Addr) (d : Nat) (w : World) : (Op.equalIn (d + 1) 29 (.pointer p) (.pointer p)).run Yba.prog w = .ok true w := by
  cases p with
  | none => simp [Op.equalIn, run_underlying Yba.underlying29]
  | some a =>
    obtain ⟨j, hj, _⟩ := info34
    simp [Op.equalIn, run_underlying Yba.underlying29, sizeOf, typeInfo, hj, run_sameAddr_same]

/-- Two places that are one are not unequal. -/
theorem neq41 (p : Option Addr) (a b c d : Int) (w : World) : (binOp .neq 41 (.agg #[.pointer p, .int .i64 a, .int .i64 b, .int .i64 c, .int .i64 d]) (.agg #[.pointer p, .int .i64 a, .int .i64 b, .int .i64 c, .int .i64 d])).run Yba.prog w = .ok (.bool false) w := by
  have hp := eqp29 p 9998 w
  rw [run_neq_struct, run_equalIn_struct w 9999 41 _ _ (by kernel_rfl) (by kernel_rfl)]
  simp [go_sem, hp, Program.fieldsOf, Yba.underlying41, Op.eqFields, part]


/-- The zero Reader: 69 cells. -/
theorem zero92 : ∃ cs : Array Value, cs.size = 69 ∧ ∀ w : World, (zeroValue 92).run Yba.prog w = .ok (.agg cs) w := by
  have h : (Yba.prog.info? 92).map (fun i => i.zero.map (fun v => match v with | .agg cs => cs.size | _ => 0)) = some (some 69) := by kernel_rfl
  obtain ⟨i, hi, hz⟩ := Option.map_eq_some_iff.1 h
  obtain ⟨v, hv, hc⟩ := Option.map_eq_some_iff.1 hz
  cases v with
  | agg cs => exact ⟨cs, hc, fun w => by simp [zeroValue, typeInfo, hi, hv]⟩
  | _ => simp at hc


theorem id_yes (k : Int) (w : World) (h : k = 1 ∨ k = 2) : Calls Yba.prog 7 #[.int .i64 k] w fun e w' => e = .returned (.int .i64 1) ∧ w' = w := by
  have := id_any k w
  rw [if_pos h] at this
  exact this
theorem id_no (k : Int) (w : World) (h : ¬ (k = 1 ∨ k = 2)) : Calls Yba.prog 7 #[.int .i64 k] w fun e w' => e = .returned (.int .i64 0) ∧ w' = w := by
  have := id_any k w
  rw [if_neg h] at this
  exact this

/-- The law's own 'same'. -/
def smB (k l : Int) : Bool := k == l || ((k == 1 || k == 2) && (l == 1 || l == 2))
theorem smB_a {k l : Int} (h : k = l) : smB k l = true := by simp [smB, h]
theorem smB_b {k l : Int} (h : ¬ k = l) (h1 : ¬ (k = 1 ∨ k = 2)) : smB k l = false := by
  have a1 : (k == 1) = false := by simp; omega
  have a2 : (k == 2) = false := by simp; omega
  simp [smB, h, a1, a2]
theorem smB_c {k l : Int} (h1 : k = 1 ∨ k = 2) (h2 : l = 1 ∨ l = 2) : smB k l = true := by
  have a1 : (k == 1 || k == 2) = true := by simp; omega
  have a2 : (l == 1 || l == 2) = true := by simp; omega
  simp [smB, a1, a2]
theorem smB_d {k l : Int} (h : ¬ k = l) (h2 : ¬ (l = 1 ∨ l = 2)) : smB k l = false := by
  have a1 : (l == 1) = false := by simp; omega
  have a2 : (l == 2) = false := by simp; omega
  simp [smB, h, a1, a2]

theorem sameB_sm (X : Inp) (sel : Int) : sameB X.kf (sel % 5).toNat = (!(X.file % 5 == 0) && smB (X.file % 5) (sel % 5)) := by
  have b1 : (X.kf != 0) = !(X.file % 5 == 0) := by
    rw [Bool.eq_iff_iff]; simp [Inp.kf]; omega
  have b2 : (X.kf == (sel % 5).toNat) = (X.file % 5 == sel % 5) := by
    rw [Bool.eq_iff_iff]; simp [Inp.kf]; omega
  have b3 : (X.kf == 1) = (X.file % 5 == 1) := by
    rw [Bool.eq_iff_iff]; simp [Inp.kf]; omega
  have b4 : (X.kf == 2) = (X.file % 5 == 2) := by
    rw [Bool.eq_iff_iff]; simp [Inp.kf]; omega
  have b5 : ((sel % 5).toNat == 1) = (sel % 5 == 1) := by
    rw [Bool.eq_iff_iff]; simp; omega
  have b6 : ((sel % 5).toNat == 2) = (sel % 5 == 2) := by
    rw [Bool.eq_iff_iff]; simp; omega
  simp only [sameB, smB, b1, b2, b3, b4, b5, b6]

/-- The test of the law's 'if'. -/
def cndB (X : Inp) (sel : Int) : Bool := X.held && sameB X.kf (sel % 5).toNat
theorem cnd_held {X : Inp} {sel : Int} (h : X.held = false) : cndB X sel = false := by simp [cndB, h]
theorem cnd_left {X : Inp} {sel : Int} (h : sel % 5 = 0) : cndB X sel = false := by
  have : sameB X.kf 0 = false := by simp [sameB]
  simp [cndB, h, this]
theorem cnd_k {X : Inp} {sel : Int} (h : X.file % 5 = 0) : cndB X sel = false := by simp [cndB, sameB_sm, h]
theorem cnd_sm {X : Inp} {sel : Int} (h0 : X.held = true) (h : ¬ X.file % 5 = 0) : cndB X sel = smB (X.file % 5) (sel % 5) := by simp [cndB, sameB_sm, h, h0]

theorem left_yes {B : Nat} {X : Nat → Inp} {sel : Int} {j : Nat} (h : cndB (X j) sel = true) : left (fun j => (X j).kf) (fun j => (X j).part B) (sel % 5).toNat j = { file := .pointer none, s := 0, e := 0, k := 0, n := 0, held := (X j).held } := by
  unfold cndB at h
  simp [left, Inp.part, h, Part.clear]
theorem left_no {B : Nat} {X : Nat → Inp} {sel : Int} {j : Nat} (h : cndB (X j) sel = false) : left (fun j => (X j).kf) (fun j => (X j).part B) (sel % 5).toNat j = (X j).part B := by
  unfold cndB at h
  simp [left, Inp.part, h]

end Go.Proofs.Ybulkomw
