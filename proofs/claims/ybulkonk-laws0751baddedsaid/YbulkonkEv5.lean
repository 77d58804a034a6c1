/-
  task.Events: the whole state of the two laws (set, log, events, extras), and its steps.
-/
import Derived.Test.YbulkonkEv4
namespace Go.Proofs.Ybulkonk
open Go.RowKit Go.MuLone

/-- What stays: the places; which events are ok; what each holds as 'into'; the extras. -/
structure Cf where
  evb : Nat
  lgb : Nat
  lo : Nat
  ok : Nat → Bool
  inn : Nat → Value
  sv : Value
  X : List Nat

def spv (c : Cf) (sb : Option Nat) (x : Nat) : Value := if sb = some x then c.sv else .slice none 0 0
def ints (L : List Nat) : List Value := L.map (fun (x : Nat) => Value.int .i64 (x : Int))

/-- V: all that was ever added; F: those that have fired; sb: who has the extras still; L: the log. -/
structure St (c : Cf) (eb : Nat → Nat) (D : Nat → Prop) (F : Nat → Bool) (sb : Option Nat) (V L : List Nat) (v : Value) (w : World) : Prop where
  ev : Blk w c.evb (evsC 0 v) 51
  own : ∃ E : List Nat, w.ownsRow c.lo 85 1 v E.length (E.map (evv eb)) ∧ E.Sublist V ∧ E.filter (fun x => !F x) = V.filter (fun x => !F x)
  vd : ∀ x ∈ V, D x
  tab : ∀ x, D x → Blk w (eb x) (evC x (F x) (c.ok x) c.lgb (spv c sb x) (c.inn x)) 59
  inj : ∀ x y, D x → D y → eb x = eb y → x = y
  log : ∃ lv, Blk w c.lgb #[lv] 48 ∧ w.ownsRow c.lo 3 1 lv L.length (ints L)
  xr : (c.sv = .slice none 0 0 ∧ c.X = []) ∨ (0 < c.X.length ∧ ∃ gx cap, c.sv = .slice (some ⟨gx, 0, none⟩) c.X.length cap ∧ EvRow eb c.X gx w ∧ v.ownBlock ≠ some gx)
  xd : ∀ x ∈ c.X, D x
  inn : ∀ x, D x → (c.inn x = .pointer none ∧ sb ≠ some x) ∨ c.inn x = .pointer (some ⟨c.evb, 0, none⟩)
  l1 : c.lo ≤ c.evb
  l2 : c.lo ≤ c.lgb
  l3 : ∀ x, D x → c.lo ≤ eb x
  l4 : c.lo ≤ w.heap.size

/-- What others may still lean on. -/
structure Ch (lo : Nat) (v v' : Value) (w w' : World) : Prop where
  below : Below lo w w'
  row : ∀ g c, Blk w g c 85 → v.ownBlock ≠ some g → Blk w' g c 85 ∧ v'.ownBlock ≠ some g

theorem Ch.refl (lo : Nat) (v : Value) (w : World) : Ch lo v v w w := ⟨⟨rfl, rfl, rfl, Nat.le_refl _, fun _ _ => rfl⟩, fun _ _ h k => ⟨h, k⟩⟩
theorem Ch.trans {lo : Nat} {v v' v'' : Value} {a b c : World} (h : Ch lo v v' a b) (k : Ch lo v' v'' b c) : Ch lo v v'' a c :=
  ⟨⟨k.below.os.trans h.below.os, k.below.tape.trans h.below.tape, k.below.output.trans h.below.output, Nat.le_trans h.below.size k.below.size, fun i hi => (k.below.block i hi).trans (h.below.block i hi)⟩,
   fun g c hb hn => k.row g c (h.row g c hb hn).1 (h.row g c hb hn).2⟩
theorem Ch.evrow {lo : Nat} {v v' : Value} {w w' : World} (h : Ch lo v v' w w') {eb : Nat → Nat} {ys : List Nat} {g : Nat} (hr : EvRow eb ys g w) (hn : v.ownBlock ≠ some g) : EvRow eb ys g w' ∧ v'.ownBlock ≠ some g := by
  obtain ⟨cy, hb, hc⟩ := hr
  exact ⟨⟨cy, (h.row g cy hb hn).1, hc⟩, (h.row g cy hb hn).2⟩

theorem St.rw {c : Cf} {eb : Nat → Nat} {D : Nat → Prop} {F : Nat → Bool} {sb : Option Nat} {V L : List Nat} {v : Value} {w : World} (h : St c eb D F sb V L v w) :
    ∃ E : List Nat, Rw F eb c.evb c.lo E 0 v w ∧ E.Sublist V ∧ E.filter (fun x => !F x) = V.filter (fun x => !F x) := by
  obtain ⟨E, ho, hs, hf⟩ := h.own
  exact ⟨E, ⟨h.ev, ho, fun x hx => ⟨_, h.tab x (h.vd x (hs.subset hx)), rfl⟩, h.l4⟩, hs, hf⟩

theorem Tr.ch {evb lo : Nat} {v v' : Value} {w w' : World} (h : Tr evb v v' w w') {F : Nat → Bool} {eb : Nat → Nat} {E : List Nat} {lk : Int} (r : Rw F eb evb lo E lk v w) (hlo : lo ≤ evb) : Ch lo v v' w w' := by
  refine ⟨h.fr.below r.lo (fun k hk => ?_), fun g c hb hn => ?_⟩
  · rcases hk with rfl | hk
    · exact hlo
    · exact (r.own.lt k hk).1
  · refine ⟨h.blk hb (blk_ne hb r.ev (by decide)) hn, fun e => ?_⟩
    rcases h.nw g e with h1 | h1
    · exact hn h1
    · have := hb.lt
      omega

theorem own_fr {w w' : World} {evb : Nat} {v v' : Value} (h : Tr evb v v' w w') {lo : Nat} {u : Value} {n : Nat} {xs : List Value} (ho : w.ownsRow lo 3 1 u n xs) {F : Nat → Bool} {eb : Nat → Nat} {lo' : Nat} {E : List Nat} {lk : Int} (r : Rw F eb evb lo' E lk v w) : w'.ownsRow lo 3 1 u n xs := by
  refine h.fr.own ho (fun k hk s => ?_)
  have hb : ∃ cur, Blk w k cur 3 := by
    rcases ho.2 with ⟨rfl, _⟩ | ⟨g, cap, cur, rfl, _, hh, _⟩
    · simp [Value.ownBlock] at hk
    · simp [Value.ownBlock] at hk; subst hk; exact ⟨cur, hh⟩
  obtain ⟨cur, hb⟩ := hb
  rcases s with rfl | s
  · exact blk_ne hb r.ev (by decide) rfl
  · exact own_ne r.own hb (by decide) s

/-- The set has turned. -/
theorem St.turn {c : Cf} {eb : Nat → Nat} {D : Nat → Prop} {F : Nat → Bool} {sb : Option Nat} {V L : List Nat} {v : Value} {w : World} (h : St c eb D F sb V L v w) {E E' : List Nat} {v' : Value} {w' : World} (r : Rw F eb c.evb c.lo E 0 v w) (r' : Rw F eb c.evb c.lo E' 0 v' w') (t : Tr c.evb v v' w w')
    {V' : List Nat} (hs : E'.Sublist V') (hf : E'.filter (fun x => !F x) = V'.filter (fun x => !F x)) (hd : ∀ x ∈ V', D x) : St c eb D F sb V' L v' w' ∧ Ch c.lo v v' w w' := by
  have hch := t.ch r h.l1
  refine ⟨⟨r'.ev, ⟨E', r'.own, hs, hf⟩, hd, fun x hx => t.evb r (h.tab x hx) (by decide) (by decide), h.inj, ?_, ?_, h.xd, h.inn, h.l1, h.l2, h.l3, r'.lo⟩, hch⟩
  · obtain ⟨lv, hb, ho⟩ := h.log
    exact ⟨lv, t.evb r hb (by decide) (by decide), own_fr t ho r⟩
  · rcases h.xr with h0 | ⟨h0, gx, cap, h1, h2, h3⟩
    · exact Or.inl h0
    · exact Or.inr ⟨h0, gx, cap, h1, hch.evrow h2 h3⟩

/-- A cell of one event has turned. -/
theorem St.upd {c : Cf} {eb : Nat → Nat} {D : Nat → Prop} {F : Nat → Bool} {sb : Option Nat} {V L : List Nat} {v : Value} {w : World} (h : St c eb D F sb V L v w) {x : Nat} (hx : D x) {F' : Nat → Bool} {sb' : Option Nat} (i : Nat) (u : Value)
    (hcell : (evC x (F x) (c.ok x) c.lgb (spv c sb x) (c.inn x)).setIfInBounds i u = evC x (F' x) (c.ok x) c.lgb (spv c sb' x) (c.inn x)) (hoth : ∀ y, D y → y ≠ x → F' y = F y ∧ spv c sb' y = spv c sb y) (hle : ∀ y, F y = true → F' y = true) (hsb : ∀ y, sb' = some y → sb = some y) :
    St c eb D F' sb' V L v (w.setCell ⟨eb x, i, none⟩ u) ∧ Ch c.lo v v w (w.setCell ⟨eb x, i, none⟩ u) := by
  have hbx := h.tab x hx
  obtain ⟨E, ho, hs, hf⟩ := h.own
  have n1 := own_ne ho hbx (by decide)
  have hrow : ∀ g cc, Blk w g cc 85 → v.ownBlock ≠ some g → Blk (w.setCell ⟨eb x, i, none⟩ u) g cc 85 ∧ v.ownBlock ≠ some g := fun g cc hb hn => ⟨hb.setOther (blk_ne hbx hb (by decide)) _, hn⟩
  have hch : Ch c.lo v v w (w.setCell ⟨eb x, i, none⟩ u) := ⟨⟨rfl, rfl, rfl, by simp, fun k hk => Below.heap_setCell _ _ _ _ (by have := h.l3 x hx; simp; omega)⟩, hrow⟩
  have hfil : ∀ Z : List Nat, Z.filter (fun y => !F' y) = (Z.filter (fun y => !F y)).filter (fun y => !F' y) := by
    intro Z
    rw [List.filter_filter]
    refine List.filter_congr (fun y _ => ?_)
    cases hy : F y with
    | false => simp
    | true => simp [hle y hy]
  refine ⟨⟨h.ev.setOther (blk_ne hbx h.ev (by decide)) _, ⟨E, own_set ho n1 _, hs, by rw [hfil E, hf, ← hfil V]⟩, h.vd, fun y hy => ?_, h.inj, ?_, ?_, h.xd, fun y hy => ?_, h.l1, h.l2, h.l3, by simpa using h.l4⟩, hch⟩
  · by_cases e : y = x
    · subst e
      have := hbx.setSame i u
      rw [hcell] at this
      exact this
    · have := h.tab y hy
      rw [(hoth y hy e).1, (hoth y hy e).2]
      exact this.setOther (fun e' => e (h.inj y x hy hx e'.symm)) _
  · obtain ⟨lv, hb, hl⟩ := h.log
    exact ⟨lv, hb.setOther (blk_ne hbx hb (by decide)) _, own_set hl (own_ne hl hbx (by decide)) _⟩
  · rcases h.xr with h0 | ⟨h0, gx, cap, h1, h2, h3⟩
    · exact Or.inl h0
    · exact Or.inr ⟨h0, gx, cap, h1, hch.evrow h2 h3⟩
  · rcases h.inn y hy with ⟨h1, h2⟩ | h1
    · exact Or.inl ⟨h1, fun e => h2 (hsb y e)⟩
    · exact Or.inr h1

/-- The log has grown by one. -/
theorem St.logged {c : Cf} {eb : Nat → Nat} {D : Nat → Prop} {F : Nat → Bool} {sb : Option Nat} {V L : List Nat} {v : Value} {w : World} (h : St c eb D F sb V L v w) {lv lv' : Value} (hlv : Blk w c.lgb #[lv] 48) (hlo : w.ownsRow c.lo 3 1 lv L.length (ints L)) (x : Nat) {o : Obj} {w' : World} (hA : App c.lo 3 (w.alloc o) w' lv lv' L.length (ints L) (.int .i64 x)) :
    St c eb D F sb V (L ++ [x]) v (w'.setCell ⟨c.lgb, 0, none⟩ lv') ∧ Ch c.lo v v w (w'.setCell ⟨c.lgb, 0, none⟩ lv') := by
  obtain ⟨E, ho, hs, hf⟩ := h.own
  have hne := own_ne hlo hlv (by decide)
  have hsz := hA.grown.size
  simp at hsz
  have hfr : Fr (fun k => k = c.lgb ∨ lv.ownBlock = some k) w (w'.setCell ⟨c.lgb, 0, none⟩ lv') :=
    (((Fr.refl (fun k => k = c.lgb ∨ lv.ownBlock = some k) w).alloc o).grown hA.grown (fun k hk => Or.inr (Or.inr hk))).setCell (p := ⟨c.lgb, 0, none⟩) (Or.inr (Or.inl rfl)) lv'
  have hkeep : ∀ {k : Nat} {cc : Array Value} {t : TypeId}, Blk w k cc t → t ≠ 48 → t ≠ 3 → Blk (w'.setCell ⟨c.lgb, 0, none⟩ lv') k cc t := fun hb h1 h2 => hfr.blk hb (fun s => s.elim (fun e => blk_ne hb hlv h1 e) (fun e => own_ne hlo hb h2 e))
  have hch : Ch c.lo v v w (w'.setCell ⟨c.lgb, 0, none⟩ lv') := by
    refine ⟨hfr.below h.l4 (fun k hk => ?_), fun g cc hb hn => ⟨hkeep hb (by decide) (by decide), hn⟩⟩
    rcases hk with rfl | hk
    · exact h.l2
    · exact (hlo.lt k hk).1
  have hlv' : Blk w' c.lgb #[lv] 48 := hA.blk (hlv.alloc o) hne
  refine ⟨⟨hkeep h.ev (by decide) (by decide), ⟨E, hfr.own ho (fun k hk s => ?_), hs, hf⟩, h.vd, fun y hy => hkeep (h.tab y hy) (by decide) (by decide), h.inj, ⟨lv', hlv'.setSame 0 lv', ?_⟩, ?_, h.xd, h.inn, h.l1, h.l2, h.l3, Nat.le_trans h.l4 hfr.size⟩, hch⟩
  · have hb : ∃ cur, Blk w k cur 85 := by
      rcases ho.2 with ⟨rfl, _⟩ | ⟨g, cap, cur, rfl, _, hh, _⟩
      · simp [Value.ownBlock] at hk
      · simp [Value.ownBlock] at hk; subst hk; exact ⟨cur, hh⟩
    obtain ⟨cur, hb⟩ := hb
    rcases s with rfl | s
    · exact blk_ne hb hlv (by decide) rfl
    · exact own_ne hlo hb (by decide) s
  · have := own_set (a := ⟨c.lgb, 0, none⟩) hA.own (own_ne hA.own hlv' (by decide)) lv'
    simpa [ints] using this
  · rcases h.xr with h0 | ⟨h0, gx, cap, h1, h2, h3⟩
    · exact Or.inl h0
    · exact Or.inr ⟨h0, gx, cap, h1, hch.evrow h2 h3⟩

end Go.Proofs.Ybulkonk
