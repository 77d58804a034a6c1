/-
  (*pendingLine).leave: of the held parts of one line the places in the left file are forgotten.
-/
import Derived.Test.YbulkomwIs
namespace Go.Proofs.Ybulkomw
open Go.RowKit

/-- One part of a line: the place (file, start, end, skip, n) and whether it is held. -/
structure Part where
  file : Value
  s : Int
  e : Int
  k : Int
  n : Int
  held : Bool

/-- The eight cells of a part. -/
def pcell (X : Part) (q : Nat) : Value :=
  match q with
  | 0 => X.file
  | 1 => .int .i64 X.s
  | 2 => .int .i64 X.e
  | 3 => .int .i64 X.k
  | 4 => .int .i64 X.n
  | 5 => .bool X.held
  | 6 => .slice none 0 0
  | _ => .int .i64 0

/-- The cleared part: no place. -/
def Part.clear (X : Part) : Part := { file := .pointer none, s := 0, e := 0, k := 0, n := 0, held := X.held }

/-- Block g holds m parts. -/
def PRow (w : World) (g m : Nat) (D : Nat → Part) : Prop := ∃ c, Blk w g c 46 ∧ c.size = 8 * m ∧ ∀ j, j < m → ∀ q, q < 8 → c[j * 8 + q]? = some (pcell (D j) q)

theorem PRow.cell {w : World} {g m : Nat} {D : Nat → Part} (h : PRow w g m D) {j : Nat} (hj : j < m) {q : Nat} (hq : q < 8) : w.cell? ⟨g, j * 8 + q, none⟩ = some (pcell (D j) q) := by
  obtain ⟨c, hb, _, hc⟩ := h
  rw [hb.cell]; exact hc j hj q hq
theorem PRow.frozen {w : World} {g m : Nat} {D : Nat → Part} (h : PRow w g m D) (i : Nat) : w.frozen? ⟨g, i, none⟩ = false := by
  obtain ⟨c, hb, _, _⟩ := h; exact hb.frozen i
theorem PRow.lt {w : World} {g m : Nat} {D : Nat → Part} (h : PRow w g m D) : g < w.heap.size := by
  obtain ⟨c, hb, _, _⟩ := h; exact hb.lt
theorem PRow.alloc {w : World} {g m : Nat} {D : Nat → Part} (h : PRow w g m D) (o : Obj) : PRow (w.alloc o) g m D := by
  obtain ⟨c, hb, r⟩ := h; exact ⟨c, hb.alloc o, r⟩
theorem PRow.drewN {w : World} {g m : Nat} {D : Nat → Part} (h : PRow w g m D) (n : Nat) : PRow (w.drewN n) g m D := h
theorem PRow.drew {w : World} {g m : Nat} {D : Nat → Part} (h : PRow w g m D) : PRow w.drew g m D := h
theorem PRow.setOther {w : World} {g m : Nat} {D : Nat → Part} (h : PRow w g m D) {a : Addr} (ha : a.block ≠ g) (v : Value) : PRow (w.setCell a v) g m D := by
  obtain ⟨c, hb, r⟩ := h; exact ⟨c, hb.setOther ha v, r⟩
theorem PRow.below {w w' : World} {B g m : Nat} {D : Nat → Part} (h : PRow w g m D) (hb : Below B w w') (hk : g < B) : PRow w' g m D := by
  obtain ⟨c, h1, r⟩ := h; exact ⟨c, h1.below hb hk, r⟩
theorem PRow.congr {w : World} {g m : Nat} {D D' : Nat → Part} (h : PRow w g m D) (e : ∀ j, j < m → D j = D' j) : PRow w g m D' := by
  obtain ⟨c, h1, h2, h3⟩ := h; exact ⟨c, h1, h2, fun j hj q hq => by rw [← e j hj]; exact h3 j hj q hq⟩

/-- The five cells of the place of part j set to those of X (whose held is the old one). -/
theorem PRow.set5 {w : World} {g m : Nat} {D : Nat → Part} (h : PRow w g m D) {j : Nat} (hj : j < m) (X : Part) (hX : X.held = (D j).held) :
    PRow (((((w.setCell ⟨g, j * 8, none⟩ X.file).setCell ⟨g, j * 8 + 1, none⟩ (.int .i64 X.s)).setCell ⟨g, j * 8 + 2, none⟩ (.int .i64 X.e)).setCell ⟨g, j * 8 + 3, none⟩ (.int .i64 X.k)).setCell ⟨g, j * 8 + 4, none⟩ (.int .i64 X.n)) g m
      (fun i => if i = j then X else D i) := by
  obtain ⟨c, hb, hs, hc⟩ := h
  refine ⟨_, ((((hb.setSame _ _).setSame _ _).setSame _ _).setSame _ _).setSame _ _, by simp [hs], ?_⟩
  intro i hi q hq
  by_cases e : i = j
  · subst e
    simp only [if_pos, Array.getElem?_setIfInBounds, Array.size_setIfInBounds, hs]
    have := hc i hi q hq
    match q, hq with
    | 0, _ => simp [pcell]; omega
    | 1, _ => simp [pcell]; omega
    | 2, _ => simp [pcell]; omega
    | 3, _ => simp [pcell]; omega
    | 4, _ => simp [pcell]; omega
    | 5, _ => simpa [pcell, hX] using this
    | 6, _ => simpa [pcell] using this
    | 7, _ => simpa [pcell] using this
  · have := hc i hi q hq
    simp only [if_neg e, Array.getElem?_setIfInBounds]
    rw [if_neg (by omega), if_neg (by omega), if_neg (by omega), if_neg (by omega), if_neg (by omega)]
    exact this

/-- Of the world w only block g has turned (and draws were made). -/
structure But (g : Nat) (w w' : World) : Prop where
  os : w'.os = w.os
  tape : w'.tape = w.tape
  output : w'.output = w.output
  size : w'.heap.size = w.heap.size
  block : ∀ k, k ≠ g → w'.heap[k]? = w.heap[k]?

theorem But.refl (g : Nat) (w : World) : But g w w := ⟨rfl, rfl, rfl, rfl, fun _ _ => rfl⟩
theorem But.drewN {g : Nat} {w w' : World} (h : But g w w') (n : Nat) : But g w (w'.drewN n) := ⟨h.os, h.tape, h.output, h.size, h.block⟩
theorem But.setCell {g : Nat} {w w' : World} (h : But g w w') (i : Nat) (v : Value) : But g w (w'.setCell ⟨g, i, none⟩ v) :=
  ⟨h.os, h.tape, h.output, by simpa using h.size, fun k hk => by rw [Below.heap_setCell _ _ _ _ hk]; exact h.block k hk⟩
theorem But.cell {g : Nat} {w w' : World} (h : But g w w') {a : Addr} (ha : a.block ≠ g) : w'.cell? a = w.cell? a := World.cell?_of_block (w := w) (h.block a.block ha)
theorem But.blk {g : Nat} {w w' : World} (h : But g w w') {k : Nat} {c : Array Value} {t : TypeId} (hb : Blk w k c t) (hk : k ≠ g) : Blk w' k c t := by
  unfold Blk at *; rw [h.block k hk]; exact hb
theorem But.prow {g : Nat} {w w' : World} (h : But g w w') {k m : Nat} {D : Nat → Part} (hb : PRow w k m D) (hk : k ≠ g) : PRow w' k m D := by
  obtain ⟨c, h1, r⟩ := hb; exact ⟨c, h.blk h1 hk, r⟩
theorem But.files {g B : Nat} {w w' : World} (h : But g w w') (hF : Files B w) (hg : B + 5 ≤ g) : Files B w' := fun k a b => h.blk (hF k a b) (by omega)
theorem But.below {g : Nat} {w w' : World} (h : But g w w') {B : Nat} (hB : B ≤ g) : Below B w w' := ⟨h.os, h.tape, h.output, by rw [h.size]; exact Nat.le_refl _, fun k hk => h.block k (by omega)⟩
theorem But.trans {g : Nat} {a b c : World} (h : But g a b) (k : But g b c) : But g a c := ⟨k.os.trans h.os, k.tape.trans h.tape, k.output.trans h.output, k.size.trans h.size, fun i hi => (k.block i hi).trans (h.block i hi)⟩

/-- What 'leave' makes of a part. -/
def left (K : Nat → Nat) (D : Nat → Part) (l j : Nat) : Part := if (D j).held && sameB (K j) l then (D j).clear else D j

set_option maxHeartbeats 1000000 in
theorem leave_any {B : Nat} {w : World} (hF : Files B w) (l : Nat) (hl : l < 5) (hl0 : l ≠ 0) (pb i g m : Nat) (D : Nat → Part) (K : Nat → Nat)
    (hK : ∀ j, j < m → K j < 5 ∧ (D j).file = fptr B (K j))
    (hm : m ≤ 1024) (hp : w.cell? ⟨pb, i * 10 + 7, none⟩ = some (.slice (some ⟨g, 0, none⟩) m m)) (hpg : pb ≠ g) (hg : B + 5 ≤ g)
    (hR : PRow w g m D) :
    Calls Yba.prog 8 #[.pointer (some ⟨pb, i * 10, none⟩), fptr B l] w fun e w' => e = .returned (.tuple #[]) ∧
      PRow w' g m (left K D l) ∧ But g w w' := by
  go_enter Yba.func8, Yba.ntmps8
  go_wp2
  go_loopw [11] (fun c wr => ∃ k : Nat, k ≤ m ∧ c = .int .i64 k ∧ PRow wr g m (fun j => if j < k then left K D l j else D j) ∧ But g w wr) (fun c _ => m - (intOf c).toNat)
  case atStart => exact ⟨0, Nat.zero_le _, rfl, hR.congr (fun j _ => by simp), But.refl _ _⟩
  case round =>
    obtain ⟨k, hk, rfl, hRk, hb⟩ := hrel
    have hp' : wr.cell? ⟨pb, i * 10 + 7, none⟩ = some (.slice (some ⟨g, 0, none⟩) m m) := (hb.cell hpg).trans hp
    clear hp
    by_cases hlt : k < m
    · have c0 : wr.cell? ⟨g, k * 8, none⟩ = some (fptr B (K k)) := by
        have := hRk.cell hlt (q := 0) (by omega)
        simpa [pcell, (hK k hlt).2] using this
      have c1 : wr.cell? ⟨g, k * 8 + 1, none⟩ = some (.int .i64 (D k).s) := by
        have := hRk.cell hlt (q := 1) (by omega)
        simpa [pcell] using this
      have c2 : wr.cell? ⟨g, k * 8 + 2, none⟩ = some (.int .i64 (D k).e) := by
        have := hRk.cell hlt (q := 2) (by omega)
        simpa [pcell] using this
      have c3 : wr.cell? ⟨g, k * 8 + 3, none⟩ = some (.int .i64 (D k).k) := by
        have := hRk.cell hlt (q := 3) (by omega)
        simpa [pcell] using this
      have c4 : wr.cell? ⟨g, k * 8 + 4, none⟩ = some (.int .i64 (D k).n) := by
        have := hRk.cell hlt (q := 4) (by omega)
        simpa [pcell] using this
      have c5 : wr.cell? ⟨g, k * 8 + 5, none⟩ = some (.bool (D k).held) := by
        have := hRk.cell hlt (q := 5) (by omega)
        simpa [pcell] using this
      have fz : ∀ i, wr.frozen? ⟨g, i, none⟩ = false := hRk.frozen
      have hF' := hb.files hF hg
      have hKk := (hK k hlt).1
      cases hh : (D k).held
      · rw [hh] at c5
        have e1 : left K D l k = D k := by simp [left, hh]
        have hnext : PRow wr g m (fun j => if j < k + 1 then left K D l j else D j) := hRk.congr (fun j _ => by
          by_cases h1 : j < k
          · rw [if_pos h1, if_pos (by omega)]
          · rw [if_neg h1]
            by_cases h2 : j = k
            · subst h2; rw [if_pos (by omega), e1]
            · rw [if_neg (by omega)])
        have HE : Hid (left K D l k = D k) := e1
        have HH : Hid ((D k).held = false) := hh
        clear e1 hh
        go_wp2
        go_roundw
        case rel => exact ⟨k + 1, by omega, by go_num, hnext, hb⟩
        case measure => simp [intOf]; omega
      · rw [hh] at c5
        cases hs : sameB (K k) l
        · have e1 : left K D l k = D k := by simp [left, hs]
          have hnext : PRow wr g m (fun j => if j < k + 1 then left K D l j else D j) := hRk.congr (fun j _ => by
            by_cases h1 : j < k
            · rw [if_pos h1, if_pos (by omega)]
            · rw [if_neg h1]
              by_cases h2 : j = k
              · subst h2; rw [if_pos (by omega), e1]
              · rw [if_neg (by omega)])
          have hcall := is_any hF' (K k) l hKk hl hl0
          rw [hs] at hcall
          have HC := hcall
          clear e1 hh hcall hs
          go_wp2_with (go_at_call 9; refine HC.mono ?_; rintro e w' ⟨rfl, n, rfl⟩)
          go_roundw
          case rel => exact ⟨k + 1, by omega, by go_num, hnext.drewN _, hb.drewN _⟩
          case measure => simp [intOf]; omega
        · have hcall := is_any hF' (K k) l hKk hl hl0
          rw [hs] at hcall
          have HC := hcall
          have hset := fun n => (hRk.drewN n).set5 hlt (D k).clear (by simp [Part.clear])
          have hnext := fun n => (hset n).congr (D' := fun j => if j < k + 1 then left K D l j else D j) (fun j _ => by
            by_cases h2 : j = k
            · subst h2; simp [left, hh, hs]
            · simp only [if_neg h2]
              by_cases h1 : j < k
              · rw [if_pos h1, if_pos (by omega)]
              · rw [if_neg h1, if_neg (by omega)])
          simp only [Part.clear] at hnext
          clear hset hcall hh hs
          have hbut := fun n => (((((hb.drewN n).setCell (k * 8) (.pointer none)).setCell (k * 8 + 1) (.int .i64 0)).setCell (k * 8 + 2) (.int .i64 0)).setCell (k * 8 + 3) (.int .i64 0)).setCell (k * 8 + 4) (.int .i64 0)
          go_wp2_with (go_at_call 9; refine HC.mono ?_; rintro e w' ⟨rfl, n, rfl⟩)
          go_roundw
          case rel => exact ⟨k + 1, by omega, by go_num, hnext n, hbut n⟩
          case measure => simp [intOf]; omega
    · have : k = m := by omega
      subst this
      go_wp2
      go_end0
      exact ⟨rfl, hRk.congr (fun j hj => by simp [hj]), hb⟩

end Go.Proofs.Ybulkomw
