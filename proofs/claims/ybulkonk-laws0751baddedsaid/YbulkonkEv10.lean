/-
  LawS0751BOrder walked.
-/
import Derived.Test.YbulkonkEv9
namespace Go.Proofs.Ybulkonk
open Go.RowKit Go.MuLone

theorem fr0_of_below {w w' : World} (h : Below w.heap.size w w') : Fr (fun _ => False) w w' := ⟨h.os, h.tape, h.output, h.size, fun k hk _ => h.block k hk⟩

theorem EvRow.fr0 {w w' : World} (h : Fr (fun _ => False) w w') {eb : Nat → Nat} {ys : List Nat} {g : Nat} (hr : EvRow eb ys g w) : EvRow eb ys g w' := by
  obtain ⟨cy, hb, hc⟩ := hr
  exact ⟨cy, h.blk hb (fun s => s), hc⟩

/-- Nothing of the old has turned. -/
theorem St.fr0 {c : Cf} {eb : Nat → Nat} {D : Nat → Prop} {F : Nat → Bool} {sb : Option Nat} {V L : List Nat} {v : Value} {w w' : World} (h : St c eb D F sb V L v w) (hf : Fr (fun _ => False) w w') : St c eb D F sb V L v w' := by
  refine ⟨hf.blk h.ev (fun s => s), ?_, h.vd, fun x hx => hf.blk (h.tab x hx) (fun s => s), h.inj, ?_, ?_, h.xd, h.inn, h.l1, h.l2, h.l3, Nat.le_trans h.l4 hf.size⟩
  · obtain ⟨E, ho, r⟩ := h.own
    exact ⟨E, hf.own ho (fun _ _ s => s), r⟩
  · obtain ⟨lv, hb, ho⟩ := h.log
    exact ⟨lv, hf.blk hb (fun s => s), hf.own ho (fun _ _ s => s)⟩
  · rcases h.xr with h0 | ⟨h0, gx, cap, h1, h2, h3⟩
    · exact Or.inl h0
    · exact Or.inr ⟨h0, gx, cap, h1, h2.fr0 hf, h3⟩

def ebx (eb : Nat → Nat) (x b : Nat) : Nat → Nat := fun y => if y = x then b else eb y
theorem map_ebx {eb : Nat → Nat} {x b : Nat} {l : List Nat} (h : x ∉ l) : l.map (evv (ebx eb x b)) = l.map (evv eb) :=
  List.map_congr_left (fun y hy => by simp [evv, ebx, show y ≠ x from fun e => h (e ▸ hy)])

/-- One event more has been made. -/
theorem St.extend {c : Cf} {eb : Nat → Nat} {D : Nat → Prop} {F : Nat → Bool} {sb sb' : Option Nat} {V L : List Nat} {v : Value} {w w' : World} (h : St c eb D F sb V L v w) (hf : Fr (fun _ => False) w w') {x b : Nat} (hx : ¬ D x) (hb : w.heap.size ≤ b) (hbk : Blk w' b (evC x (F x) (c.ok x) c.lgb (spv c sb' x) (c.inn x)) 59)
    (hsp : ∀ y, D y → spv c sb' y = spv c sb y) (hin : ∀ y, D y → sb' ≠ sb → sb' ≠ some y) (hix : (c.inn x = .pointer none ∧ sb' ≠ some x) ∨ c.inn x = .pointer (some ⟨c.evb, 0, none⟩)) :
    St c (ebx eb x b) (fun y => D y ∨ y = x) F sb' V L v w' := by
  have h' := h.fr0 hf
  have hl := h.l4
  have hold : ∀ y, D y → ebx eb x b y = eb y := fun y hy => by simp [ebx, show y ≠ x from fun e => hx (e ▸ hy)]
  have hnew : ebx eb x b x = b := by simp [ebx]
  have hlt : ∀ y, D y → eb y < w.heap.size := fun y hy => (h.tab y hy).lt
  refine ⟨h'.ev, ?_, fun y hy => Or.inl (h.vd y hy), ?_, ?_, h'.log, ?_, fun y hy => Or.inl (h.xd y hy), ?_, h.l1, h.l2, ?_, h'.l4⟩
  · obtain ⟨E, ho, hs, r⟩ := h'.own
    refine ⟨E, ?_, hs, r⟩
    rw [map_ebx (fun e => hx (h.vd x (hs.subset e)))]
    exact ho
  · rintro y (hy | rfl)
    · rw [hold y hy, hsp y hy]
      exact h'.tab y hy
    · rw [hnew]
      exact hbk
  · rintro y z (hy | rfl) (hz | rfl) e
    · rw [hold y hy, hold z hz] at e
      exact h.inj y z hy hz e
    · rw [hold y hy, hnew] at e
      have := hlt y hy
      omega
    · rw [hold z hz, hnew] at e
      have := hlt z hz
      omega
    · rfl
  · rcases h'.xr with h0 | ⟨h0, gx, cap, h1, ⟨cy, h2, h2'⟩, h3⟩
    · exact Or.inl h0
    · refine Or.inr ⟨h0, gx, cap, h1, ⟨cy, h2, ?_⟩, h3⟩
      rw [map_ebx (fun e => hx (h.xd x e))]
      exact h2'
  · rintro y (hy | rfl)
    · rcases h.inn y hy with ⟨h1, h2⟩ | h1
      · refine Or.inl ⟨h1, ?_⟩
        by_cases e : sb' = sb
        · rw [e]; exact h2
        · exact hin y hy e
      · exact Or.inr h1
    · exact hix
  · rintro y (hy | rfl)
    · rw [hold y hy]; exact h.l3 y hy
    · rw [hnew]; omega

theorem St.dom {c : Cf} {eb : Nat → Nat} {D D' : Nat → Prop} {F : Nat → Bool} {sb : Option Nat} {V L : List Nat} {v : Value} {w : World} (h : St c eb D F sb V L v w) (hd : ∀ x, D' x ↔ D x) : St c eb D' F sb V L v w := by
  have : D' = D := funext fun x => propext (hd x)
  rw [this]; exact h

theorem evrow1 {eb : Nat → Nat} {x b g : Nat} {w : World} (hb : Blk w g #[.iface 55 (.pointer (some ⟨b, 0, none⟩))] 85) : EvRow (ebx eb x b) [x] g w := by
  refine ⟨_, hb, fun j u hu => ?_⟩
  match j, hu with
  | 0, hu => simp [evv, ebx] at hu; subst hu; rfl

set_option maxHeartbeats 400000 in
theorem background (w : World) : Calls Yba.prog 15 #[] w fun r w' => ∃ v, r = .returned v ∧ w = w' := by
  go_enter Yba.func15, Yba.ntmps15
  go_wp2
  go_ret
  exact ⟨_, rfl, rfl⟩

/-- The places in LawS0751BOrder. -/
def cfO (B : Nat) (oi : Nat → Bool) : Cf := ⟨B + 1, B, B, oi, fun _ => .pointer none, .slice none 0 0, []⟩

theorem stO_init (w : World) (oi fi : Nat → Bool) : St (cfO w.heap.size oi) (fun _ => 0) (fun x => x < 0) fi none [] [] (.slice none 0 0) ((w.alloc (.cells #[.slice none 0 0] 48)).alloc (.cells #[.int .i32 0, .int .u32 0, .slice none 0 0] 51)) := by
  refine ⟨Blk.new _ _ _ _ (by simp [cfO]), ⟨[], World.ownsRow_nil _ _ _ _, List.Sublist.refl _, rfl⟩, (fun x hx => by cases hx), (fun x hx => by omega), (fun x y hx => by omega), ⟨_, (Blk.new _ _ _ _ rfl).alloc _, World.ownsRow_nil _ _ _ _⟩, Or.inl ⟨rfl, rfl⟩, (fun x hx => by simp [cfO] at hx), (fun x hx => by omega), (by simp [cfO]), (by simp [cfO]), (fun x hx => by omega), (by simp [cfO]; omega)⟩

set_option maxHeartbeats 4000000 in
theorem orderB {a0 : Option Addr} {n cap ab ao : Nat} {fi oi : Nat → Bool} {w : World} (H : It w a0 n ab ao fi oi) (hn : n ≤ 1024) :
    Calls Yba.prog 5 #[.slice a0 n cap] w fun e w' => e = .returned (.bool true) ∧ Below w.heap.size w w' := by
  go_enter Yba.func5, Yba.ntmps5
  go_wp2
  go_loopw [16] (fun i wr => ∃ (k : Nat) (eb : Nat → Nat) (v : Value), k ≤ n ∧ i = .int .i64 k ∧ St (cfO w.heap.size oi) eb (fun x => x < k) fi none (List.range k) [] v wr ∧ Below w.heap.size w wr) (fun i _ => n - (intOf i).toNat)
  case atStart => exact ⟨0, fun _ => 0, .slice none 0 0, Nat.zero_le _, rfl, stO_init w oi fi, ((Below.refl _ _).alloc (Nat.le_refl _) _).alloc (by simp) _⟩
  case round =>
    obtain ⟨k, eb, v, hk, rfl, hst, hb⟩ := hrel
    have hsz := hb.size
    by_cases hlt : k < n
    · obtain ⟨rfl, hab, _, _⟩ := H k hlt
      obtain ⟨_, _, hc0, hc1⟩ := (H.below hb (fun _ => hab)) k hlt
      have hf0 : ∀ o1 o2 o3, Fr (fun _ => False) wr (((wr.alloc o1).alloc o2).alloc o3) := fun o1 o2 o3 => (((Fr.refl _ _).alloc o1).alloc o2).alloc o3
      have hbk : ∀ o1 o3, Blk (((wr.alloc o1).alloc (.cells #[.int .i64 k, .bool (fi k), .bool (oi k), .pointer (some ⟨w.heap.size, 0, none⟩), .slice none 0 0, .pointer none] 59)).alloc o3) (wr.heap.size + 1) (evC k (fi k) (oi k) w.heap.size (.slice none 0 0) (.pointer none)) 59 := fun o1 o3 => (Blk.new _ _ _ _ (by simp)).alloc _
      have hex := fun o1 o3 => hst.extend (sb' := none) (hf0 o1 _ o3) (x := k) (b := wr.heap.size + 1) (by omega) (by omega) (hbk o1 o3) (fun _ _ => rfl) (fun _ _ e => absurd rfl e) (Or.inl ⟨rfl, by simp⟩)
      have hvl : ∀ q, v.ownBlock = some q → q < wr.heap.size := fun q hq => by
        obtain ⟨E, ho, _⟩ := hst.own
        exact (ho.lt q hq).2
      have hdom : ∀ x, x < k + 1 ↔ (x < k ∨ x = k) := fun x => by omega
      go_wp2_with fail
      refine (add_st (cap := 1) (ys := [k]) (hex _ _) (by simp; omega) (evrow1 (Blk.new _ _ _ _ (by simp))) (fun e => by have := hvl _ e; omega) (by simp) (by simp) (fun x hx => Or.inr (by simpa using hx))).mono ?_
      rintro r w2 ⟨rfl, v2, h2, ch2⟩
      have h3 : St (cfO w.heap.size oi) (ebx eb k (wr.heap.size + 1)) (fun x => x < k + 1) fi none (List.range (k + 1)) [] v2 w2 := by
        rw [List.range_succ]
        exact h2.dom hdom
      have hb2 : Below w.heap.size w w2 := by
        have hb3 := ch2.below
        have hs3 := hb3.size
        simp at hs3
        refine ⟨hb3.os.trans hb.os, hb3.tape.trans hb.tape, hb3.output.trans hb.output, by omega, fun q hq => ?_⟩
        rw [hb3.block q hq, Below.heap_alloc _ _ _ (by simp; omega), Below.heap_alloc _ _ _ (by simp; omega), Below.heap_alloc _ _ _ (by omega)]
        exact hb.block q hq
      clear ch2 h2 hex hbk hf0 hst hb H
      go_wp2
      go_roundw
      case rel => exact ⟨k + 1, _, v2, by omega, by go_num, h3, hb2⟩
      case measure => simp [intOf]; omega
    · have hkn : k = n := by omega
      subst hkn
      obtain ⟨s', b, hW, hfold, hlen⟩ := wait_plain (c := cfO w.heap.size oi) ⟨fi, none, List.range k, []⟩ rfl List.nodup_range (by simp; omega) (by simp; omega)
      simp at hlen
      go_wp2_with fail
      refine (background _).mono ?_
      rintro r w1 ⟨ctx, rfl, rfl⟩
      go_wp2_with fail
      refine (wait_any (s := ⟨fi, none, List.range k, []⟩) hst (by simp [cfO]) ctx hW).mono ?_
      rintro r w2 ⟨rfl, v2, h2, ch2⟩
      have hb2 : Below w.heap.size w w2 := by
        have hb3 := ch2.below
        exact ⟨hb3.os.trans hb.os, hb3.tape.trans hb.tape, hb3.output.trans hb.output, Nat.le_trans hb.size hb3.size, fun q hq => (hb3.block q hq).trans (hb.block q hq)⟩
      have hIt : It w2 a0 k ab ao fi oi := H.below hb2 (fun h0 => H.lt h0)
      have hsz2 := hb2.size
      clear hst hb H ch2
      go_wp2_with fail
      have hg : gsts fi oi 0 k ([], true, 0) = (s'.L, b, s'.U.length) := by
        rw [← hfold]
        simp [gsts, cfO]
      refine (bstep_any (F := fi) (ok := oi) (base := 0) (st := ([], true, 0)) (lo := w2.heap.size) hIt (fun i _ => by simp) (fun i _ => by simp) hn (by omega) (Nat.le_refl _) (fun h0 => hIt.lt h0) (World.ownsRow_nil _ _ _ _) (by simp) (by simp)).mono ?_
      rintro r w3 ⟨wv, rfl, ho3, hb3⟩
      rw [hg] at ho3 ⊢
      simp only at ho3
      have h3 := h2.fr0 (fr0_of_below hb3)
      obtain ⟨lv, hlv, hlo⟩ := h3.log
      have g0 := hlv.cell 0
      simp at g0
      have hcf : (cfO w.heap.size oi).lgb = w.heap.size := rfl
      rw [hcf] at g0
      have HB := beq_same (v1 := lv) (v2 := wv) hlo ho3 (by omega)
      have hb4 : ∀ w4, Below w3.heap.size w3 w4 → Below w.heap.size w w4 := fun w4 hx => by
        have := hb3.size
        exact ⟨hx.os.trans (hb3.os.trans hb2.os), hx.tape.trans (hb3.tape.trans hb2.tape), hx.output.trans (hb3.output.trans hb2.output), Nat.le_trans hb2.size (Nat.le_trans hb3.size hx.size), fun q hq => (hx.block q (by omega)).trans ((hb3.block q (by omega)).trans (hb2.block q hq))⟩
      clear hIt hlv hlo ho3 hfold h2
      cases b
      all_goals go_wp2_with (first | (go_at_call 17; refine HB.mono ?_; rintro r w4 ⟨rfl, hb5⟩))
      all_goals
        have h4 := h3.fr0 (fr0_of_below hb5)
        have hb6 := hb4 _ hb5
        clear hb4 HB h3 hb5 hb3 hb2
        try go_wp2_with fail
        refine (Pending_st h4).mono ?_
        rintro r w5 ⟨rfl, v5, h5, ch5⟩
        have hb7 : Below w.heap.size w w5 := by
          have hb8 := ch5.below
          exact ⟨hb8.os.trans hb6.os, hb8.tape.trans hb6.tape, hb8.output.trans hb6.output, Nat.le_trans hb6.size hb8.size, fun q hq => (hb8.block q hq).trans (hb6.block q hq)⟩
        have hU : ((List.filter (fun x => !s'.F x) s'.V).length : Int) = (s'.U.length : Int) := rfl
        rw [hU]
        clear h5 h4 ch5
        go_wp2
        go_ret
        exact ⟨rfl, hb7⟩

end Go.Proofs.Ybulkonk
